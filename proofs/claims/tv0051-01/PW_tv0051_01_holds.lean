import PyProof.Rows.All
import Wide.All
import OpenK.AllK
import Wide.FinOn
import PySem.Challenge.RW_tv0051_01
set_option rowWalk.seconds 0
set_option linter.all false
set_option genSizeOf false
set_option genInjectivity false
set_option Elab.async false
section
open PySem PySem.W PyProof.Rows
set_option Elab.async false
namespace Mine
/-- a store forgets how the tokens came about -/
noncomputable def upI (m : Str → Option Value) (x : Str) (i : Int) (u : Tok) : Str → Option Value := fun y => if y = x then some (.int i u) else m y
noncomputable def upS (m : Str → Option Value) (x : Str) (i : Str) (u : Tok) : Str → Option Value := fun y => if y = x then some (.str i u) else m y
noncomputable def upA (m : Str → Option Value) (x : Str) (v : Value) : Str → Option Value := fun y => if y = x then some v else m y
theorem upI_ne {m m' : Str → Option Value} {x y : Str} {i : Int} {u : Tok} (h : y ≠ x) (r : m y = m' y) : upI m x i u y = m' y := (if_neg h).trans r
theorem upS_ne {m m' : Str → Option Value} {x y : Str} {i : Str} {u : Tok} (h : y ≠ x) (r : m y = m' y) : upS m x i u y = m' y := (if_neg h).trans r
theorem upA_ne {m m' : Str → Option Value} {x y : Str} {v : Value} (h : y ≠ x) (r : m y = m' y) : upA m x v y = m' y := (if_neg h).trans r
theorem ctn_ne {l : List Str} {z x : Str} (h : l.contains z = false) (hm : x ∈ l) : z ≠ x := fun e => by rw [e, List.contains_eq_mem, decide_eq_true hm] at h; cases h
theorem ctn_sub {l l' : List Str} {z : Str} (h : l.contains z = false) (hs : (l'.all fun x => l.contains x) = true) : l'.contains z = false := by
  cases e : l'.contains z with
  | false => rfl
  | true => exact absurd (List.all_eq_true.mp hs z (List.contains_iff_mem.mp e)) (by rw [h]; decide)
theorem ite_ctn {l : List Str} {z : Str} {o p q : Option Value} (h : l.contains z = false) (r : p = q) : (if l.contains z = true then o else p) = q := by rw [h]; exact r
theorem ite_ne {o p q : Option Value} {x y : Str} (h : y ≠ x) (r : p = q) : (if y = x then o else p) = q := (if_neg h).trans r
theorem stI {M : Model} {A : Around} {E : Value → Shared → Prop} {h₁ : Heap} {gs : Array GenState} {dr : Drawn} {t : Nat} {os : OsState} {h₀ : Heap} {L a : Addr} {m : Str → Option Value} {cn : Str} {cs : Scope} {ccd : Value} {cl : List (Str × Addr)}
  {x : Str} {i : Int} {u : Tok} {Q : Unit → Shared → Prop} {news : List (Addr × Obj)} (F : Fr h₀ L h₁ m) (N : News h₀ L h₁ news)
    (h : ∀ h' t u, Fr h₀ L h' (upI m x i u) → News h₀ L h' news → Q () ⟨h', gs, dr, t, os⟩)
    (hk : cs.kind = .function := by rfl) (hx : (envX cn cs L a ccd cl).kindOf x = some .local := by rfl) : wpAny M A (storeName (envX cn cs L a ccd cl) x (.int i u)) Q E ⟨h₁, gs, dr, t, os⟩ :=
  storeX_L F N (fun h' F' N' => h h' _ u F' N') hk hx
theorem stS {M : Model} {A : Around} {E : Value → Shared → Prop} {h₁ : Heap} {gs : Array GenState} {dr : Drawn} {t : Nat} {os : OsState} {h₀ : Heap} {L a : Addr} {m : Str → Option Value} {cn : Str} {cs : Scope} {ccd : Value} {cl : List (Str × Addr)}
  {x : Str} {i : Str} {u : Tok} {Q : Unit → Shared → Prop} {news : List (Addr × Obj)} (F : Fr h₀ L h₁ m) (N : News h₀ L h₁ news)
    (h : ∀ h' t u, Fr h₀ L h' (upS m x i u) → News h₀ L h' news → Q () ⟨h', gs, dr, t, os⟩)
    (hk : cs.kind = .function := by rfl) (hx : (envX cn cs L a ccd cl).kindOf x = some .local := by rfl) : wpAny M A (storeName (envX cn cs L a ccd cl) x (.str i u)) Q E ⟨h₁, gs, dr, t, os⟩ :=
  storeX_L F N (fun h' F' N' => h h' _ u F' N') hk hx
theorem stA {M : Model} {A : Around} {E : Value → Shared → Prop} {h₁ : Heap} {gs : Array GenState} {dr : Drawn} {t : Nat} {os : OsState} {h₀ : Heap} {L a : Addr} {m : Str → Option Value} {cn : Str} {cs : Scope} {ccd : Value} {cl : List (Str × Addr)}
  {x : Str} {v : Value} {Q : Unit → Shared → Prop} {news : List (Addr × Obj)} (F : Fr h₀ L h₁ m) (N : News h₀ L h₁ news)
    (h : ∀ h' t (_ : Tok), Fr h₀ L h' (upA m x v) → News h₀ L h' news → Q () ⟨h', gs, dr, t, os⟩)
    (hk : cs.kind = .function := by rfl) (hx : (envX cn cs L a ccd cl).kindOf x = some .local := by rfl) : wpAny M A (storeName (envX cn cs L a ccd cl) x (v)) Q E ⟨h₁, gs, dr, t, os⟩ :=
  storeX_L F N (fun h' F' N' => h h' _ 0 F' N') hk hx
theorem gen_QE {M : Model} {A : Around} {b : List Stmt} {env : Env} {Q₀ : Flow → Shared → Prop} {E₀ : Value → Shared → Prop} {s : Shared} (hE : PassesOwn M A env E₀) (h : ∀ Q E, Q = Q₀ → PassesOwn M A env E → wpAny M A (execs b env) Q E s) : wpAny M A (execs b env) Q₀ E₀ s := h Q₀ E₀ rfl hE
/-- what is to follow, put aside under a name -/
noncomputable def Cont {α : Type} (q : α → Shared → Prop) (v : α) (s : Shared) : Prop := q v s
theorem pop_Q {α : Type} {q q₀ : α → Shared → Prop} {v : α} {s : Shared} (hq : q = q₀) (h : q₀ v s) : Cont q v s := by subst hq; exact h
theorem push_Q {M : Model} {α : Type} {A : Around} {c : Sem α} {Q : α → Shared → Prop} {E : Value → Shared → Prop} {s : Shared} (h : ∀ q, q = Q → wpAny M A c (Cont q) E s) : wpAny M A c Q E s := h Q rfl
theorem push_cons {M : Model} {A : Around} {st : Stmt} {rest : List Stmt} {env : Env} {Q : Flow → Shared → Prop} {E : Value → Shared → Prop} {s : Shared}
    (h : ∀ q, q = (fun f s' => match f with | .next => wpAny M A (execs rest env) Q E s' | f => Q f s') → wpAny M A (exec st env) (Cont q) E s) : wpAny M A (execs (st :: rest) env) Q E s := wpAny_execs_cons (h _ rfl)
end Mine
end
section
open PySem PySem.W PyProof.Rows
set_option Elab.async false
set_option maxRecDepth 100000
set_option maxHeartbeats 8000000
namespace Mine
noncomputable def stAt (i : Nat) : Stmt := PySem.Challenge.pw_tv0051_01.main.body.getD i (.Pass default)
noncomputable def clAt (j : Nat) : Stmt := match stAt 12 with | .ClassDef _ _ _ b _ _ _ _ _ _ _ => b.getD j (.Pass default) | _ => .Pass default
noncomputable def prOf (s : Stmt) : Arguments := match s with | .FunctionDef _ a _ _ _ _ _ _ _ _ => a | _ => default
noncomputable def bdOf (s : Stmt) : List Stmt := match s with | .FunctionDef _ _ b _ _ _ _ _ _ _ => b | _ => []
noncomputable def scOf (s : Stmt) : Scope := match s with | .FunctionDef _ _ _ _ _ _ sc _ _ _ => sc | _ => default
noncomputable def hd.heap_39 : Params → Frag := by
  refine fun P => ((nat_lit 2, { cls := Value.none, data := Data.dict #[] }) ::
    (nat_lit 3, { cls := Value.type "dict", data := Data.dict #[{ hash := PyData.keyHash P (Str.ofString "__name__"), key := Value.str (Str.ofString "__name__") 165, val := Value.str (Str.ofString "law_tv0051_01") 422 }, { hash := PyData.keyHash P (Str.ofString "__doc__"), key := Value.str (Str.ofString "__doc__") 166, val := Value.none }, { hash := PyData.keyHash P (Str.ofString "__package__"), key := Value.str (Str.ofString "__package__") 167, val := Value.none }, { hash := PyData.keyHash P (Str.ofString "__loader__"), key := Value.str (Str.ofString "__loader__") 168, val := Value.builtin "__main__.__loader__#opaque" }, { hash := PyData.keyHash P (Str.ofString "__spec__"), key := Value.str (Str.ofString "__spec__") 169, val := Value.none }, { hash := PyData.keyHash P (Str.ofString "__annotations__"), key := Value.str (Str.ofString "__annotations__") 170, val := Value.ref 6 }, { hash := PyData.keyHash P (Str.ofString "__builtins__"), key := Value.str (Str.ofString "__builtins__") 171, val := Value.ref 4 }, { hash := PyData.keyHash P (Str.ofString "__file__"), key := Value.str (Str.ofString "__file__") 173, val := Value.str (Str.ofString "/claim/cut.py") 172 }, { hash := PyData.keyHash P (Str.ofString "__cached__"), key := Value.str (Str.ofString "__cached__") 174, val := Value.none }, { hash := PyData.keyHash P (Str.ofString "_wall"), key := Value.str (Str.ofString "_wall") 193, val := Value.ref 21 }, { hash := PyData.keyHash P (Str.ofString "bisect_left"), key := Value.str (Str.ofString "bisect_left") 209, val := Value.ref 30 }, { hash := PyData.keyHash P (Str.ofString "_DIV_LIMIT"), key := Value.str (Str.ofString "_DIV_LIMIT") 213, val := Value.int 4000 212 }, { hash := PyData.keyHash P (Str.ofString "_div2n1n"), key := Value.str (Str.ofString "_div2n1n") 230, val := Value.ref 37 }, { hash := PyData.keyHash P (Str.ofString "_div3n2n"), key := Value.str (Str.ofString "_div3n2n") 244, val := Value.ref 44 }, { hash := PyData.keyHash P (Str.ofString "_int2digits"), key := Value.str (Str.ofString "_int2digits") 255, val := Value.ref 51 }, { hash := PyData.keyHash P (Str.ofString "_digits2int"), key := Value.str (Str.ofString "_digits2int") 266, val := Value.ref 58 }, { hash := PyData.keyHash P (Str.ofString "_divmod_pos"), key := Value.str (Str.ofString "_divmod_pos") 281, val := Value.ref 65 }, { hash := PyData.keyHash P (Str.ofString "int_divmod"), key := Value.str (Str.ofString "int_divmod") 291, val := Value.ref 72 }, { hash := PyData.keyHash P (Str.ofString "Whitespace"), key := Value.str (Str.ofString "Whitespace") 385, val := Value.ref 134 }, { hash := PyData.keyHash P (Str.ofString "_MAX_STRING_SIZE"), key := Value.str (Str.ofString "_MAX_STRING_SIZE") 389, val := Value.int 40 388 }, { hash := PyData.keyHash P (Str.ofString "_MOVE_COST"), key := Value.str (Str.ofString "_MOVE_COST") 391, val := Value.int 2 390 }, { hash := PyData.keyHash P (Str.ofString "_CASE_COST"), key := Value.str (Str.ofString "_CASE_COST") 393, val := Value.int 1 392 }, { hash := PyData.keyHash P (Str.ofString "_substitution_cost"), key := Value.str (Str.ofString "_substitution_cost") 401, val := Value.ref 145 }, { hash := PyData.keyHash P (Str.ofString "_levenshtein_distance"), key := Value.str (Str.ofString "_levenshtein_distance") 421, val := Value.ref 152 }, { hash := PyData.keyHash P (Str.ofString "_law_choose"), key := Value.str (Str.ofString "_law_choose") 433, val := Value.ref 159 }, { hash := PyData.keyHash P (Str.ofString "_law_lead"), key := Value.str (Str.ofString "_law_lead") 444, val := Value.ref 166 }, { hash := PyData.keyHash P (Str.ofString "_law_key"), key := Value.str (Str.ofString "_law_key") 451, val := Value.ref 173 }, { hash := PyData.keyHash P (Str.ofString "_law_bits"), key := Value.str (Str.ofString "_law_bits") 457, val := Value.ref 178 }, { hash := PyData.keyHash P (Str.ofString "_law_letters"), key := Value.str (Str.ofString "_law_letters") 463, val := Value.ref 183 }, { hash := PyData.keyHash P (Str.ofString "law"), key := Value.str (Str.ofString "law") 469, val := Value.ref 188 }] 30 }) ::
    (nat_lit 15, { cls := Value.type "tuple", data := Data.seq #[] }) ::
    (nat_lit 17, { cls := Value.type "tuple", data := Data.seq #[Value.str (Str.ofString "k") 190] }) ::
    (nat_lit 18, { cls := Value.type "tuple", data := Data.seq #[] }) ::
    (nat_lit 20, { cls := Value.type "code", data := Data.fields #[Value.str (Str.ofString "_wall") 187, Value.str (Str.ofString "_wall") 188, Value.str (Str.ofString "/claim/cut.py") 189, Value.int 1 0, Value.int 1 0, Value.int 0 0, Value.int 0 0, Value.int 3 0, Value.ref 15, Value.bool true, Value.int 181 0, Value.ref 16, Value.none, Value.ref 17, Value.ref 18, Value.ref 19, Value.int 191 0, Value.int 1 0, Value.str (Str.ofString "/claim/cut.py") 192] }) ::
    (nat_lit 21, { cls := Value.type "function", data := Data.func { name := Str.ofString "_wall", qualname := Str.ofString "_wall", params := ?p0, body := FuncBody.stmts ?b0, scope := ?s0, globals := 3, closure := [], defaults := Value.none, kwdefaults := Value.none, pyModule := Value.str (Str.ofString "__main__") 164, code := Value.ref 20 } }) ::
    (nat_lit 22, { cls := Value.type "tuple", data := Data.seq #[Value.int 0 196, Value.none] }) ::
    (nat_lit 23, { cls := Value.type "dict", data := Data.dict #[{ hash := PyData.keyHash P (Str.ofString "key"), key := Value.str (Str.ofString "key") 197, val := Value.none }] 1 }) ::
    (nat_lit 24, { cls := Value.type "tuple", data := Data.seq #[] }) ::
    (nat_lit 26, { cls := Value.type "tuple", data := Data.seq #[Value.str (Str.ofString "a") 201, Value.str (Str.ofString "x") 202, Value.str (Str.ofString "lo") 203, Value.str (Str.ofString "hi") 204, Value.str (Str.ofString "key") 205, Value.str (Str.ofString "mid") 206] }) ::
    (nat_lit 27, { cls := Value.type "tuple", data := Data.seq #[] }) ::
    (nat_lit 29, { cls := Value.type "code", data := Data.fields #[Value.str (Str.ofString "bisect_left") 198, Value.str (Str.ofString "bisect_left") 199, Value.str (Str.ofString "/claim/cut.py") 200, Value.int 5 0, Value.int 4 0, Value.int 0 0, Value.int 1 0, Value.int 3 0, Value.ref 24, Value.bool true, Value.int 181 0, Value.ref 25, Value.none, Value.ref 26, Value.ref 27, Value.ref 28, Value.int 207 0, Value.int 5 0, Value.str (Str.ofString "/claim/cut.py") 208] }) ::
    (nat_lit 30, { cls := Value.type "function", data := Data.func { name := Str.ofString "bisect_left", qualname := Str.ofString "bisect_left", params := ?p1, body := FuncBody.stmts ?b1, scope := ?s1, globals := 3, closure := [], defaults := Value.ref 22, kwdefaults := Value.ref 23, pyModule := Value.str (Str.ofString "cpy313.bisect") 194, code := Value.ref 29 } }) ::
    (nat_lit 31, { cls := Value.type "tuple", data := Data.seq #[] }) ::
    (nat_lit 33, { cls := Value.type "tuple", data := Data.seq #[Value.str (Str.ofString "a") 217, Value.str (Str.ofString "b") 218, Value.str (Str.ofString "n") 219, Value.str (Str.ofString "pad") 220, Value.str (Str.ofString "half_n") 221, Value.str (Str.ofString "mask") 222, Value.str (Str.ofString "b1") 223, Value.str (Str.ofString "b2") 224, Value.str (Str.ofString "q1") 225, Value.str (Str.ofString "r") 226, Value.str (Str.ofString "q2") 227] }) ::
    (nat_lit 34, { cls := Value.type "tuple", data := Data.seq #[] }) ::
    (nat_lit 36, { cls := Value.type "code", data := Data.fields #[Value.str (Str.ofString "_div2n1n") 214, Value.str (Str.ofString "_div2n1n") 215, Value.str (Str.ofString "/claim/cut.py") 216, Value.int 27 0, Value.int 3 0, Value.int 0 0, Value.int 0 0, Value.int 3 0, Value.ref 31, Value.bool true, Value.int 181 0, Value.ref 32, Value.none, Value.ref 33, Value.ref 34, Value.ref 35, Value.int 228 0, Value.int 27 0, Value.str (Str.ofString "/claim/cut.py") 229] }) ::
    (nat_lit 37, { cls := Value.type "function", data := Data.func { name := Str.ofString "_div2n1n", qualname := Str.ofString "_div2n1n", params := ?p2, body := FuncBody.stmts ?b2, scope := ?s2, globals := 3, closure := [], defaults := Value.none, kwdefaults := Value.none, pyModule := Value.str (Str.ofString "cpy313._pylong") 210, code := Value.ref 36 } }) ::
    (nat_lit 38, { cls := Value.type "tuple", data := Data.seq #[] }) ::
    (nat_lit 40, { cls := Value.type "tuple", data := Data.seq #[Value.str (Str.ofString "a12") 234, Value.str (Str.ofString "a3") 235, Value.str (Str.ofString "b") 236, Value.str (Str.ofString "b1") 237, Value.str (Str.ofString "b2") 238, Value.str (Str.ofString "n") 239, Value.str (Str.ofString "q") 240, Value.str (Str.ofString "r") 241] }) ::
    (nat_lit 41, { cls := Value.type "tuple", data := Data.seq #[] }) ::
    (nat_lit 43, { cls := Value.type "code", data := Data.fields #[Value.str (Str.ofString "_div3n2n") 231, Value.str (Str.ofString "_div3n2n") 232, Value.str (Str.ofString "/claim/cut.py") 233, Value.int 43 0, Value.int 6 0, Value.int 0 0, Value.int 0 0, Value.int 3 0, Value.ref 38, Value.bool true, Value.int 181 0, Value.ref 39, Value.none, Value.ref 40, Value.ref 41, Value.ref 42, Value.int 242 0, Value.int 43 0, Value.str (Str.ofString "/claim/cut.py") 243] }) ::
    (nat_lit 44, { cls := Value.type "function", data := Data.func { name := Str.ofString "_div3n2n", qualname := Str.ofString "_div3n2n", params := ?p3, body := FuncBody.stmts ?b3, scope := ?s3, globals := 3, closure := [], defaults := Value.none, kwdefaults := Value.none, pyModule := Value.str (Str.ofString "cpy313._pylong") 210, code := Value.ref 43 } }) ::
    (nat_lit 45, { cls := Value.type "tuple", data := Data.seq #[] }) ::
    (nat_lit 47, { cls := Value.type "tuple", data := Data.seq #[Value.str (Str.ofString "a") 248, Value.str (Str.ofString "n") 249] }) ::
    (nat_lit 48, { cls := Value.type "tuple", data := Data.seq #[Value.str (Str.ofString "n") 250, Value.str (Str.ofString "a_digits") 251, Value.str (Str.ofString "inner") 252] }) ::
    (nat_lit 50, { cls := Value.type "code", data := Data.fields #[Value.str (Str.ofString "_int2digits") 245, Value.str (Str.ofString "_int2digits") 246, Value.str (Str.ofString "/claim/cut.py") 247, Value.int 53 0, Value.int 2 0, Value.int 0 0, Value.int 0 0, Value.int 3 0, Value.ref 45, Value.bool true, Value.int 181 0, Value.ref 46, Value.none, Value.ref 47, Value.ref 48, Value.ref 49, Value.int 253 0, Value.int 53 0, Value.str (Str.ofString "/claim/cut.py") 254] }) ::
    (nat_lit 51, { cls := Value.type "function", data := Data.func { name := Str.ofString "_int2digits", qualname := Str.ofString "_int2digits", params := ?p4, body := FuncBody.stmts ?b4, scope := ?s4, globals := 3, closure := [], defaults := Value.none, kwdefaults := Value.none, pyModule := Value.str (Str.ofString "cpy313._pylong") 210, code := Value.ref 50 } }) ::
    (nat_lit 52, { cls := Value.type "tuple", data := Data.seq #[] }) ::
    (nat_lit 54, { cls := Value.type "tuple", data := Data.seq #[Value.str (Str.ofString "digits") 259, Value.str (Str.ofString "n") 260] }) ::
    (nat_lit 55, { cls := Value.type "tuple", data := Data.seq #[Value.str (Str.ofString "digits") 261, Value.str (Str.ofString "n") 262, Value.str (Str.ofString "inner") 263] }) ::
    (nat_lit 57, { cls := Value.type "code", data := Data.fields #[Value.str (Str.ofString "_digits2int") 256, Value.str (Str.ofString "_digits2int") 257, Value.str (Str.ofString "/claim/cut.py") 258, Value.int 69 0, Value.int 2 0, Value.int 0 0, Value.int 0 0, Value.int 3 0, Value.ref 52, Value.bool true, Value.int 181 0, Value.ref 53, Value.none, Value.ref 54, Value.ref 55, Value.ref 56, Value.int 264 0, Value.int 69 0, Value.str (Str.ofString "/claim/cut.py") 265] }) ::
    (nat_lit 58, { cls := Value.type "function", data := Data.func { name := Str.ofString "_digits2int", qualname := Str.ofString "_digits2int", params := ?p5, body := FuncBody.stmts ?b5, scope := ?s5, globals := 3, closure := [], defaults := Value.none, kwdefaults := Value.none, pyModule := Value.str (Str.ofString "cpy313._pylong") 210, code := Value.ref 57 } }) ::
    (nat_lit 59, { cls := Value.type "tuple", data := Data.seq #[] }) ::
    (nat_lit 61, { cls := Value.type "tuple", data := Data.seq #[Value.str (Str.ofString "a") 270, Value.str (Str.ofString "b") 271, Value.str (Str.ofString "n") 272, Value.str (Str.ofString "a_digits") 273, Value.str (Str.ofString "r") 274, Value.str (Str.ofString "q_digits") 275, Value.str (Str.ofString "a_digit") 276, Value.str (Str.ofString "q_digit") 277, Value.str (Str.ofString "q") 278] }) ::
    (nat_lit 62, { cls := Value.type "tuple", data := Data.seq #[] }) ::
    (nat_lit 64, { cls := Value.type "code", data := Data.fields #[Value.str (Str.ofString "_divmod_pos") 267, Value.str (Str.ofString "_divmod_pos") 268, Value.str (Str.ofString "/claim/cut.py") 269, Value.int 78 0, Value.int 2 0, Value.int 0 0, Value.int 0 0, Value.int 3 0, Value.ref 59, Value.bool true, Value.int 181 0, Value.ref 60, Value.none, Value.ref 61, Value.ref 62, Value.ref 63, Value.int 279 0, Value.int 78 0, Value.str (Str.ofString "/claim/cut.py") 280] }) ::
    (nat_lit 65, { cls := Value.type "function", data := Data.func { name := Str.ofString "_divmod_pos", qualname := Str.ofString "_divmod_pos", params := ?p6, body := FuncBody.stmts ?b6, scope := ?s6, globals := 3, closure := [], defaults := Value.none, kwdefaults := Value.none, pyModule := Value.str (Str.ofString "cpy313._pylong") 210, code := Value.ref 64 } }) ::
    (nat_lit 66, { cls := Value.type "tuple", data := Data.seq #[] }) ::
    (nat_lit 68, { cls := Value.type "tuple", data := Data.seq #[Value.str (Str.ofString "a") 285, Value.str (Str.ofString "b") 286, Value.str (Str.ofString "q") 287, Value.str (Str.ofString "r") 288] }) ::
    (nat_lit 69, { cls := Value.type "tuple", data := Data.seq #[] }) ::
    (nat_lit 71, { cls := Value.type "code", data := Data.fields #[Value.str (Str.ofString "int_divmod") 282, Value.str (Str.ofString "int_divmod") 283, Value.str (Str.ofString "/claim/cut.py") 284, Value.int 89 0, Value.int 2 0, Value.int 0 0, Value.int 0 0, Value.int 3 0, Value.ref 66, Value.bool true, Value.int 181 0, Value.ref 67, Value.none, Value.ref 68, Value.ref 69, Value.ref 70, Value.int 289 0, Value.int 89 0, Value.str (Str.ofString "/claim/cut.py") 290] }) ::
    (nat_lit 72, { cls := Value.type "function", data := Data.func { name := Str.ofString "int_divmod", qualname := Str.ofString "int_divmod", params := ?p7, body := FuncBody.stmts ?b7, scope := ?s7, globals := 3, closure := [], defaults := Value.none, kwdefaults := Value.none, pyModule := Value.str (Str.ofString "cpy313._pylong") 210, code := Value.ref 71 } }) ::
    (nat_lit 83, { cls := Value.type "tuple", data := Data.seq #[] }) ::
    (nat_lit 85, { cls := Value.type "tuple", data := Data.seq #[Value.str (Str.ofString "self") 314, Value.str (Str.ofString "ws") 315, Value.str (Str.ofString "S") 316, Value.str (Str.ofString "T") 317, Value.str (Str.ofString "count") 318, Value.str (Str.ofString "b") 319, Value.str (Str.ofString "n") 320, Value.str (Str.ofString "nt") 321, Value.str (Str.ofString "ch") 322] }) ::
    (nat_lit 86, { cls := Value.type "tuple", data := Data.seq #[] }) ::
    (nat_lit 88, { cls := Value.type "code", data := Data.fields #[Value.str (Str.ofString "__init__") 311, Value.str (Str.ofString "Whitespace.__init__") 312, Value.str (Str.ofString "/claim/cut.py") 313, Value.int 104 0, Value.int 2 0, Value.int 0 0, Value.int 0 0, Value.int 3 0, Value.ref 83, Value.bool true, Value.int 181 0, Value.ref 84, Value.none, Value.ref 85, Value.ref 86, Value.ref 87, Value.int 323 0, Value.int 104 0, Value.str (Str.ofString "/claim/cut.py") 324] }) ::
    (nat_lit 89, { cls := Value.type "function", data := Data.func { name := Str.ofString "__init__", qualname := Str.ofString "Whitespace.__init__", params := ?p8, body := FuncBody.stmts ?b8, scope := ?s8, globals := 3, closure := [], defaults := Value.none, kwdefaults := Value.none, pyModule := Value.str (Str.ofString "cpy313.tabnanny") 292, code := Value.ref 88 } }) ::
    (nat_lit 90, { cls := Value.type "tuple", data := Data.seq #[] }) ::
    (nat_lit 92, { cls := Value.type "tuple", data := Data.seq #[Value.str (Str.ofString "self") 329] }) ::
    (nat_lit 93, { cls := Value.type "tuple", data := Data.seq #[] }) ::
    (nat_lit 95, { cls := Value.type "code", data := Data.fields #[Value.str (Str.ofString "longest_run_of_spaces") 326, Value.str (Str.ofString "Whitespace.longest_run_of_spaces") 327, Value.str (Str.ofString "/claim/cut.py") 328, Value.int 127 0, Value.int 1 0, Value.int 0 0, Value.int 0 0, Value.int 3 0, Value.ref 90, Value.bool true, Value.int 181 0, Value.ref 91, Value.none, Value.ref 92, Value.ref 93, Value.ref 94, Value.int 330 0, Value.int 127 0, Value.str (Str.ofString "/claim/cut.py") 331] }) ::
    (nat_lit 96, { cls := Value.type "function", data := Data.func { name := Str.ofString "longest_run_of_spaces", qualname := Str.ofString "Whitespace.longest_run_of_spaces", params := ?p9, body := FuncBody.stmts ?b9, scope := ?s9, globals := 3, closure := [], defaults := Value.none, kwdefaults := Value.none, pyModule := Value.str (Str.ofString "cpy313.tabnanny") 292, code := Value.ref 95 } }) ::
    (nat_lit 97, { cls := Value.type "tuple", data := Data.seq #[] }) ::
    (nat_lit 99, { cls := Value.type "tuple", data := Data.seq #[Value.str (Str.ofString "self") 336, Value.str (Str.ofString "tabsize") 337] }) ::
    (nat_lit 100, { cls := Value.type "tuple", data := Data.seq #[] }) ::
    (nat_lit 102, { cls := Value.type "code", data := Data.fields #[Value.str (Str.ofString "indent_level") 333, Value.str (Str.ofString "Whitespace.indent_level") 334, Value.str (Str.ofString "/claim/cut.py") 335, Value.int 130 0, Value.int 2 0, Value.int 0 0, Value.int 0 0, Value.int 3 0, Value.ref 97, Value.bool true, Value.int 181 0, Value.ref 98, Value.none, Value.ref 99, Value.ref 100, Value.ref 101, Value.int 338 0, Value.int 130 0, Value.str (Str.ofString "/claim/cut.py") 339] }) ::
    (nat_lit 103, { cls := Value.type "function", data := Data.func { name := Str.ofString "indent_level", qualname := Str.ofString "Whitespace.indent_level", params := ?p10, body := FuncBody.stmts ?b10, scope := ?s10, globals := 3, closure := [], defaults := Value.none, kwdefaults := Value.none, pyModule := Value.str (Str.ofString "cpy313.tabnanny") 292, code := Value.ref 102 } }) ::
    (nat_lit 104, { cls := Value.type "tuple", data := Data.seq #[] }) ::
    (nat_lit 106, { cls := Value.type "tuple", data := Data.seq #[Value.str (Str.ofString "self") 344, Value.str (Str.ofString "other") 345] }) ::
    (nat_lit 107, { cls := Value.type "tuple", data := Data.seq #[] }) ::
    (nat_lit 109, { cls := Value.type "code", data := Data.fields #[Value.str (Str.ofString "equal") 341, Value.str (Str.ofString "Whitespace.equal") 342, Value.str (Str.ofString "/claim/cut.py") 343, Value.int 133 0, Value.int 2 0, Value.int 0 0, Value.int 0 0, Value.int 3 0, Value.ref 104, Value.bool true, Value.int 181 0, Value.ref 105, Value.none, Value.ref 106, Value.ref 107, Value.ref 108, Value.int 346 0, Value.int 133 0, Value.str (Str.ofString "/claim/cut.py") 347] }) ::
    (nat_lit 110, { cls := Value.type "function", data := Data.func { name := Str.ofString "equal", qualname := Str.ofString "Whitespace.equal", params := ?p11, body := FuncBody.stmts ?b11, scope := ?s11, globals := 3, closure := [], defaults := Value.none, kwdefaults := Value.none, pyModule := Value.str (Str.ofString "cpy313.tabnanny") 292, code := Value.ref 109 } }) ::
    (nat_lit 111, { cls := Value.type "tuple", data := Data.seq #[] }) ::
    (nat_lit 113, { cls := Value.type "tuple", data := Data.seq #[Value.str (Str.ofString "self") 352, Value.str (Str.ofString "other") 353] }) ::
    (nat_lit 114, { cls := Value.type "tuple", data := Data.seq #[] }) ::
    (nat_lit 116, { cls := Value.type "code", data := Data.fields #[Value.str (Str.ofString "not_equal_witness") 349, Value.str (Str.ofString "Whitespace.not_equal_witness") 350, Value.str (Str.ofString "/claim/cut.py") 351, Value.int 136 0, Value.int 2 0, Value.int 0 0, Value.int 0 0, Value.int 3 0, Value.ref 111, Value.bool true, Value.int 181 0, Value.ref 112, Value.none, Value.ref 113, Value.ref 114, Value.ref 115, Value.int 354 0, Value.int 136 0, Value.str (Str.ofString "/claim/cut.py") 355] }) ::
    (nat_lit 117, { cls := Value.type "function", data := Data.func { name := Str.ofString "not_equal_witness", qualname := Str.ofString "Whitespace.not_equal_witness", params := ?p12, body := FuncBody.stmts ?b12, scope := ?s12, globals := 3, closure := [], defaults := Value.none, kwdefaults := Value.none, pyModule := Value.str (Str.ofString "cpy313.tabnanny") 292, code := Value.ref 116 } }) ::
    (nat_lit 118, { cls := Value.type "tuple", data := Data.seq #[] }) ::
    (nat_lit 120, { cls := Value.type "tuple", data := Data.seq #[Value.str (Str.ofString "self") 360, Value.str (Str.ofString "other") 361] }) ::
    (nat_lit 121, { cls := Value.type "tuple", data := Data.seq #[] }) ::
    (nat_lit 123, { cls := Value.type "code", data := Data.fields #[Value.str (Str.ofString "less") 357, Value.str (Str.ofString "Whitespace.less") 358, Value.str (Str.ofString "/claim/cut.py") 359, Value.int 139 0, Value.int 2 0, Value.int 0 0, Value.int 0 0, Value.int 3 0, Value.ref 118, Value.bool true, Value.int 181 0, Value.ref 119, Value.none, Value.ref 120, Value.ref 121, Value.ref 122, Value.int 362 0, Value.int 139 0, Value.str (Str.ofString "/claim/cut.py") 363] }) ::
    (nat_lit 124, { cls := Value.type "function", data := Data.func { name := Str.ofString "less", qualname := Str.ofString "Whitespace.less", params := ?p13, body := FuncBody.stmts ?b13, scope := ?s13, globals := 3, closure := [], defaults := Value.none, kwdefaults := Value.none, pyModule := Value.str (Str.ofString "cpy313.tabnanny") 292, code := Value.ref 123 } }) ::
    (nat_lit 125, { cls := Value.type "tuple", data := Data.seq #[] }) ::
    (nat_lit 127, { cls := Value.type "tuple", data := Data.seq #[Value.str (Str.ofString "self") 368, Value.str (Str.ofString "other") 369] }) ::
    (nat_lit 128, { cls := Value.type "tuple", data := Data.seq #[] }) ::
    (nat_lit 130, { cls := Value.type "code", data := Data.fields #[Value.str (Str.ofString "not_less_witness") 365, Value.str (Str.ofString "Whitespace.not_less_witness") 366, Value.str (Str.ofString "/claim/cut.py") 367, Value.int 142 0, Value.int 2 0, Value.int 0 0, Value.int 0 0, Value.int 3 0, Value.ref 125, Value.bool true, Value.int 181 0, Value.ref 126, Value.none, Value.ref 127, Value.ref 128, Value.ref 129, Value.int 370 0, Value.int 142 0, Value.str (Str.ofString "/claim/cut.py") 371] }) ::
    (nat_lit 131, { cls := Value.type "function", data := Data.func { name := Str.ofString "not_less_witness", qualname := Str.ofString "Whitespace.not_less_witness", params := ?p14, body := FuncBody.stmts ?b14, scope := ?s14, globals := 3, closure := [], defaults := Value.none, kwdefaults := Value.none, pyModule := Value.str (Str.ofString "cpy313.tabnanny") 292, code := Value.ref 130 } }) ::
    (nat_lit 132, { cls := Value.type "tuple", data := Data.seq #[Value.str (Str.ofString "is_simple") 373, Value.str (Str.ofString "n") 374, Value.str (Str.ofString "norm") 375, Value.str (Str.ofString "nt") 376, Value.str (Str.ofString "raw") 377] }) ::
    (nat_lit 133, { cls := Value.type "dict", data := Data.dict #[{ hash := PyData.keyHash P (Str.ofString "__module__"), key := Value.str (Str.ofString "__module__") 301, val := Value.str (Str.ofString "cpy313.tabnanny") 292 }, { hash := PyData.keyHash P (Str.ofString "__firstlineno__"), key := Value.str (Str.ofString "__firstlineno__") 305, val := Value.int 101 304 }, { hash := PyData.keyHash P (Str.ofString "S"), key := Value.str (Str.ofString "S") 309, val := Value.str (Str.ofString " ") 307 }, { hash := PyData.keyHash P (Str.ofString "T"), key := Value.str (Str.ofString "T") 310, val := Value.str (Str.ofString "\t") 308 }, { hash := PyData.keyHash P (Str.ofString "__init__"), key := Value.str (Str.ofString "__init__") 325, val := Value.ref 89 }, { hash := PyData.keyHash P (Str.ofString "longest_run_of_spaces"), key := Value.str (Str.ofString "longest_run_of_spaces") 332, val := Value.ref 96 }, { hash := PyData.keyHash P (Str.ofString "indent_level"), key := Value.str (Str.ofString "indent_level") 340, val := Value.ref 103 }, { hash := PyData.keyHash P (Str.ofString "equal"), key := Value.str (Str.ofString "equal") 348, val := Value.ref 110 }, { hash := PyData.keyHash P (Str.ofString "not_equal_witness"), key := Value.str (Str.ofString "not_equal_witness") 356, val := Value.ref 117 }, { hash := PyData.keyHash P (Str.ofString "less"), key := Value.str (Str.ofString "less") 364, val := Value.ref 124 }, { hash := PyData.keyHash P (Str.ofString "not_less_witness"), key := Value.str (Str.ofString "not_less_witness") 372, val := Value.ref 131 }, { hash := PyData.keyHash P (Str.ofString "__static_attributes__"), key := Value.str (Str.ofString "__static_attributes__") 378, val := Value.ref 132 }, { hash := PyData.keyHash P (Str.ofString "__dict__"), key := Value.str (Str.ofString "__dict__") 380, val := Value.ref 135 }, { hash := PyData.keyHash P (Str.ofString "__weakref__"), key := Value.str (Str.ofString "__weakref__") 382, val := Value.ref 136 }, { hash := PyData.keyHash P (Str.ofString "__doc__"), key := Value.str (Str.ofString "__doc__") 383, val := Value.none }] 4 }) ::
    (nat_lit 134, { cls := Value.type "type", data := Data.cls { name := Str.ofString "Whitespace", bases := [Value.type "object"], mro := [Value.ref 134, Value.type "object"], ns := 133, qualname := Str.ofString "Whitespace" }, slots := #[none, none, some (Value.str (Str.ofString "Whitespace") 294), some (Value.str (Str.ofString "Whitespace") 302), some (Value.builtin "object.__new__"), some (Value.bool true)] }) ::
    (nat_lit 135, { cls := Value.type "getset_descriptor", data := Data.fields #[Value.str (Str.ofString "__dict__") 379, Value.ref 134, Value.builtin "function.__dict__", Value.builtin "function.__dict__#set"] }) ::
    (nat_lit 136, { cls := Value.type "getset_descriptor", data := Data.fields #[Value.str (Str.ofString "__weakref__") 381, Value.ref 134, Value.builtin "ExceptionGroup.__weakref__", Value.none] }) ::
    (nat_lit 139, { cls := Value.type "tuple", data := Data.seq #[] }) ::
    (nat_lit 141, { cls := Value.type "tuple", data := Data.seq #[Value.str (Str.ofString "ch_a") 397, Value.str (Str.ofString "ch_b") 398] }) ::
    (nat_lit 142, { cls := Value.type "tuple", data := Data.seq #[] }) ::
    (nat_lit 144, { cls := Value.type "code", data := Data.fields #[Value.str (Str.ofString "_substitution_cost") 394, Value.str (Str.ofString "_substitution_cost") 395, Value.str (Str.ofString "/claim/cut.py") 396, Value.int 148 0, Value.int 2 0, Value.int 0 0, Value.int 0 0, Value.int 3 0, Value.ref 139, Value.bool true, Value.int 181 0, Value.ref 140, Value.none, Value.ref 141, Value.ref 142, Value.ref 143, Value.int 399 0, Value.int 148 0, Value.str (Str.ofString "/claim/cut.py") 400] }) ::
    (nat_lit 145, { cls := Value.type "function", data := Data.func { name := Str.ofString "_substitution_cost", qualname := Str.ofString "_substitution_cost", params := ?p15, body := FuncBody.stmts ?b15, scope := ?s15, globals := 3, closure := [], defaults := Value.none, kwdefaults := Value.none, pyModule := Value.str (Str.ofString "cpy313.traceback") 386, code := Value.ref 144 } }) ::
    (nat_lit 146, { cls := Value.type "tuple", data := Data.seq #[] }) ::
    (nat_lit 148, { cls := Value.type "tuple", data := Data.seq #[Value.str (Str.ofString "a") 405, Value.str (Str.ofString "b") 406, Value.str (Str.ofString "max_cost") 407, Value.str (Str.ofString "pre") 408, Value.str (Str.ofString "post") 409, Value.str (Str.ofString "row") 410, Value.str (Str.ofString "result") 411, Value.str (Str.ofString "bindex") 412, Value.str (Str.ofString "bchar") 413, Value.str (Str.ofString "distance") 414, Value.str (Str.ofString "minimum") 415, Value.str (Str.ofString "index") 416, Value.str (Str.ofString "substitute") 417, Value.str (Str.ofString "insert_delete") 418] }) ::
    (nat_lit 149, { cls := Value.type "tuple", data := Data.seq #[] }) ::
    (nat_lit 151, { cls := Value.type "code", data := Data.fields #[Value.str (Str.ofString "_levenshtein_distance") 402, Value.str (Str.ofString "_levenshtein_distance") 403, Value.str (Str.ofString "/claim/cut.py") 404, Value.int 154 0, Value.int 3 0, Value.int 0 0, Value.int 0 0, Value.int 3 0, Value.ref 146, Value.bool true, Value.int 181 0, Value.ref 147, Value.none, Value.ref 148, Value.ref 149, Value.ref 150, Value.int 419 0, Value.int 154 0, Value.str (Str.ofString "/claim/cut.py") 420] }) ::
    (nat_lit 152, { cls := Value.type "function", data := Data.func { name := Str.ofString "_levenshtein_distance", qualname := Str.ofString "_levenshtein_distance", params := ?p16, body := FuncBody.stmts ?b16, scope := ?s16, globals := 3, closure := [], defaults := Value.none, kwdefaults := Value.none, pyModule := Value.str (Str.ofString "cpy313.traceback") 386, code := Value.ref 151 } }) ::
    (nat_lit 153, { cls := Value.type "tuple", data := Data.seq #[] }) ::
    (nat_lit 155, { cls := Value.type "tuple", data := Data.seq #[Value.str (Str.ofString "size") 427, Value.str (Str.ofString "some") 428, Value.str (Str.ofString "ways") 429, Value.str (Str.ofString "i") 430] }) ::
    (nat_lit 156, { cls := Value.type "tuple", data := Data.seq #[] }) ::
    (nat_lit 158, { cls := Value.type "code", data := Data.fields #[Value.str (Str.ofString "_law_choose") 424, Value.str (Str.ofString "_law_choose") 425, Value.str (Str.ofString "/claim/cut.py") 426, Value.int 193 0, Value.int 2 0, Value.int 0 0, Value.int 0 0, Value.int 3 0, Value.ref 153, Value.bool true, Value.int 181 0, Value.ref 154, Value.none, Value.ref 155, Value.ref 156, Value.ref 157, Value.int 431 0, Value.int 193 0, Value.str (Str.ofString "/claim/cut.py") 432] }) ::
    (nat_lit 159, { cls := Value.type "function", data := Data.func { name := Str.ofString "_law_choose", qualname := Str.ofString "_law_choose", params := ?p17, body := FuncBody.stmts ?b17, scope := ?s17, globals := 3, closure := [], defaults := Value.none, kwdefaults := Value.none, pyModule := Value.str (Str.ofString "law_tv0051_01") 422, code := Value.ref 158 } }) ::
    (nat_lit 160, { cls := Value.type "tuple", data := Data.seq #[] }) ::
    (nat_lit 162, { cls := Value.type "tuple", data := Data.seq #[Value.str (Str.ofString "blanks") 437, Value.str (Str.ofString "tabs") 438, Value.str (Str.ofString "place") 439, Value.str (Str.ofString "tail") 440, Value.str (Str.ofString "ahead") 441] }) ::
    (nat_lit 163, { cls := Value.type "tuple", data := Data.seq #[] }) ::
    (nat_lit 165, { cls := Value.type "code", data := Data.fields #[Value.str (Str.ofString "_law_lead") 434, Value.str (Str.ofString "_law_lead") 435, Value.str (Str.ofString "/claim/cut.py") 436, Value.int 198 0, Value.int 3 0, Value.int 0 0, Value.int 0 0, Value.int 3 0, Value.ref 160, Value.bool true, Value.int 181 0, Value.ref 161, Value.none, Value.ref 162, Value.ref 163, Value.ref 164, Value.int 442 0, Value.int 198 0, Value.str (Str.ofString "/claim/cut.py") 443] }) ::
    (nat_lit 166, { cls := Value.type "function", data := Data.func { name := Str.ofString "_law_lead", qualname := Str.ofString "_law_lead", params := ?p18, body := FuncBody.stmts ?b18, scope := ?s18, globals := 3, closure := [], defaults := Value.none, kwdefaults := Value.none, pyModule := Value.str (Str.ofString "law_tv0051_01") 422, code := Value.ref 165 } }) ::
    (nat_lit 167, { cls := Value.type "tuple", data := Data.seq #[] }) ::
    (nat_lit 169, { cls := Value.type "tuple", data := Data.seq #[Value.str (Str.ofString "beginning") 448] }) ::
    (nat_lit 170, { cls := Value.type "tuple", data := Data.seq #[] }) ::
    (nat_lit 172, { cls := Value.type "code", data := Data.fields #[Value.str (Str.ofString "_law_key") 445, Value.str (Str.ofString "_law_key") 446, Value.str (Str.ofString "/claim/cut.py") 447, Value.int 210 0, Value.int 1 0, Value.int 0 0, Value.int 0 0, Value.int 3 0, Value.ref 167, Value.bool true, Value.int 181 0, Value.ref 168, Value.none, Value.ref 169, Value.ref 170, Value.ref 171, Value.int 449 0, Value.int 210 0, Value.str (Str.ofString "/claim/cut.py") 450] }) ::
    (nat_lit 173, { cls := Value.type "function", data := Data.func { name := Str.ofString "_law_key", qualname := Str.ofString "_law_key", params := ?p19, body := FuncBody.stmts ?b19, scope := ?s19, globals := 3, closure := [], defaults := Value.none, kwdefaults := Value.none, pyModule := Value.str (Str.ofString "law_tv0051_01") 422, code := Value.ref 172 } }) ::
    (nat_lit 174, { cls := Value.type "tuple", data := Data.seq #[] }) ::
    (nat_lit 177, { cls := Value.type "code", data := Data.fields #[Value.str (Str.ofString "_law_bits") 452, Value.str (Str.ofString "_law_bits") 453, Value.str (Str.ofString "/claim/cut.py") 454, Value.int 212 0, Value.int 1 0, Value.int 0 0, Value.int 0 0, Value.int 3 0, Value.ref 174, Value.bool true, Value.int 181 0, Value.ref 175, Value.none, Value.none, Value.none, Value.ref 176, Value.int 455 0, Value.int 212 0, Value.str (Str.ofString "/claim/cut.py") 456] }) ::
    (nat_lit 178, { cls := Value.type "function", data := Data.func { name := Str.ofString "_law_bits", qualname := Str.ofString "_law_bits", params := ?p20, body := FuncBody.stmts ?b20, scope := ?s20, globals := 3, closure := [], defaults := Value.none, kwdefaults := Value.none, pyModule := Value.str (Str.ofString "law_tv0051_01") 422, code := Value.ref 177 } }) ::
    (nat_lit 179, { cls := Value.type "tuple", data := Data.seq #[] }) ::
    (nat_lit 182, { cls := Value.type "code", data := Data.fields #[Value.str (Str.ofString "_law_letters") 458, Value.str (Str.ofString "_law_letters") 459, Value.str (Str.ofString "/claim/cut.py") 460, Value.int 214 0, Value.int 1 0, Value.int 0 0, Value.int 0 0, Value.int 3 0, Value.ref 179, Value.bool true, Value.int 181 0, Value.ref 180, Value.none, Value.none, Value.none, Value.ref 181, Value.int 461 0, Value.int 214 0, Value.str (Str.ofString "/claim/cut.py") 462] }) ::
    (nat_lit 183, { cls := Value.type "function", data := Data.func { name := Str.ofString "_law_letters", qualname := Str.ofString "_law_letters", params := ?p21, body := FuncBody.stmts ?b21, scope := ?s21, globals := 3, closure := [], defaults := Value.none, kwdefaults := Value.none, pyModule := Value.str (Str.ofString "law_tv0051_01") 422, code := Value.ref 182 } }) ::
    (nat_lit 184, { cls := Value.type "tuple", data := Data.seq #[] }) ::
    (nat_lit 187, { cls := Value.type "code", data := Data.fields #[Value.str (Str.ofString "law") 464, Value.str (Str.ofString "law") 465, Value.str (Str.ofString "/claim/cut.py") 466, Value.int 216 0, Value.int 1 0, Value.int 0 0, Value.int 0 0, Value.int 3 0, Value.ref 184, Value.bool true, Value.int 181 0, Value.ref 185, Value.none, Value.none, Value.none, Value.ref 186, Value.int 467 0, Value.int 216 0, Value.str (Str.ofString "/claim/cut.py") 468] }) ::
    (nat_lit 188, { cls := Value.type "function", data := Data.func { name := Str.ofString "law", qualname := Str.ofString "law", params := ?p22, body := FuncBody.stmts ?b22, scope := ?s22, globals := 3, closure := [], defaults := Value.none, kwdefaults := Value.none, pyModule := Value.str (Str.ofString "law_tv0051_01") 422, code := Value.ref 187 } }) :: [])
  case p0 =>
    have h : prOf (stAt 0) = prOf (stAt 0) := rfl
    conv at h => rhs; whnf
    revert h
    exact fun (_ : @Eq Arguments _ ?xp0) => ?xp0
  case b0 =>
    have h : bdOf (stAt 0) = bdOf (stAt 0) := rfl
    conv at h => rhs; whnf
    revert h
    exact fun (_ : @Eq (List Stmt) _ ?xb0) => ?xb0
  case s0 =>
    have h : scOf (stAt 0) = scOf (stAt 0) := rfl
    conv at h => rhs; whnf
    revert h
    exact fun (_ : @Eq Scope _ ?xs0) => ?xs0
  case p1 =>
    have h : prOf (stAt 2) = prOf (stAt 2) := rfl
    conv at h => rhs; whnf
    revert h
    exact fun (_ : @Eq Arguments _ ?xp1) => ?xp1
  case b1 =>
    have h : bdOf (stAt 2) = bdOf (stAt 2) := rfl
    conv at h => rhs; whnf
    revert h
    exact fun (_ : @Eq (List Stmt) _ ?xb1) => ?xb1
  case s1 =>
    have h : scOf (stAt 2) = scOf (stAt 2) := rfl
    conv at h => rhs; whnf
    revert h
    exact fun (_ : @Eq Scope _ ?xs1) => ?xs1
  case p2 =>
    have h : prOf (stAt 5) = prOf (stAt 5) := rfl
    conv at h => rhs; whnf
    revert h
    exact fun (_ : @Eq Arguments _ ?xp2) => ?xp2
  case b2 =>
    have h : bdOf (stAt 5) = bdOf (stAt 5) := rfl
    conv at h => rhs; whnf
    revert h
    exact fun (_ : @Eq (List Stmt) _ ?xb2) => ?xb2
  case s2 =>
    have h : scOf (stAt 5) = scOf (stAt 5) := rfl
    conv at h => rhs; whnf
    revert h
    exact fun (_ : @Eq Scope _ ?xs2) => ?xs2
  case p3 =>
    have h : prOf (stAt 6) = prOf (stAt 6) := rfl
    conv at h => rhs; whnf
    revert h
    exact fun (_ : @Eq Arguments _ ?xp3) => ?xp3
  case b3 =>
    have h : bdOf (stAt 6) = bdOf (stAt 6) := rfl
    conv at h => rhs; whnf
    revert h
    exact fun (_ : @Eq (List Stmt) _ ?xb3) => ?xb3
  case s3 =>
    have h : scOf (stAt 6) = scOf (stAt 6) := rfl
    conv at h => rhs; whnf
    revert h
    exact fun (_ : @Eq Scope _ ?xs3) => ?xs3
  case p4 =>
    have h : prOf (stAt 7) = prOf (stAt 7) := rfl
    conv at h => rhs; whnf
    revert h
    exact fun (_ : @Eq Arguments _ ?xp4) => ?xp4
  case b4 =>
    have h : bdOf (stAt 7) = bdOf (stAt 7) := rfl
    conv at h => rhs; whnf
    revert h
    exact fun (_ : @Eq (List Stmt) _ ?xb4) => ?xb4
  case s4 =>
    have h : scOf (stAt 7) = scOf (stAt 7) := rfl
    conv at h => rhs; whnf
    revert h
    exact fun (_ : @Eq Scope _ ?xs4) => ?xs4
  case p5 =>
    have h : prOf (stAt 8) = prOf (stAt 8) := rfl
    conv at h => rhs; whnf
    revert h
    exact fun (_ : @Eq Arguments _ ?xp5) => ?xp5
  case b5 =>
    have h : bdOf (stAt 8) = bdOf (stAt 8) := rfl
    conv at h => rhs; whnf
    revert h
    exact fun (_ : @Eq (List Stmt) _ ?xb5) => ?xb5
  case s5 =>
    have h : scOf (stAt 8) = scOf (stAt 8) := rfl
    conv at h => rhs; whnf
    revert h
    exact fun (_ : @Eq Scope _ ?xs5) => ?xs5
  case p6 =>
    have h : prOf (stAt 9) = prOf (stAt 9) := rfl
    conv at h => rhs; whnf
    revert h
    exact fun (_ : @Eq Arguments _ ?xp6) => ?xp6
  case b6 =>
    have h : bdOf (stAt 9) = bdOf (stAt 9) := rfl
    conv at h => rhs; whnf
    revert h
    exact fun (_ : @Eq (List Stmt) _ ?xb6) => ?xb6
  case s6 =>
    have h : scOf (stAt 9) = scOf (stAt 9) := rfl
    conv at h => rhs; whnf
    revert h
    exact fun (_ : @Eq Scope _ ?xs6) => ?xs6
  case p7 =>
    have h : prOf (stAt 10) = prOf (stAt 10) := rfl
    conv at h => rhs; whnf
    revert h
    exact fun (_ : @Eq Arguments _ ?xp7) => ?xp7
  case b7 =>
    have h : bdOf (stAt 10) = bdOf (stAt 10) := rfl
    conv at h => rhs; whnf
    revert h
    exact fun (_ : @Eq (List Stmt) _ ?xb7) => ?xb7
  case s7 =>
    have h : scOf (stAt 10) = scOf (stAt 10) := rfl
    conv at h => rhs; whnf
    revert h
    exact fun (_ : @Eq Scope _ ?xs7) => ?xs7
  case p8 =>
    have h : prOf (clAt 1) = prOf (clAt 1) := rfl
    conv at h => rhs; whnf
    revert h
    exact fun (_ : @Eq Arguments _ ?xp8) => ?xp8
  case b8 =>
    have h : bdOf (clAt 1) = bdOf (clAt 1) := rfl
    conv at h => rhs; whnf
    revert h
    exact fun (_ : @Eq (List Stmt) _ ?xb8) => ?xb8
  case s8 =>
    have h : scOf (clAt 1) = scOf (clAt 1) := rfl
    conv at h => rhs; whnf
    revert h
    exact fun (_ : @Eq Scope _ ?xs8) => ?xs8
  case p9 =>
    have h : prOf (clAt 2) = prOf (clAt 2) := rfl
    conv at h => rhs; whnf
    revert h
    exact fun (_ : @Eq Arguments _ ?xp9) => ?xp9
  case b9 =>
    have h : bdOf (clAt 2) = bdOf (clAt 2) := rfl
    conv at h => rhs; whnf
    revert h
    exact fun (_ : @Eq (List Stmt) _ ?xb9) => ?xb9
  case s9 =>
    have h : scOf (clAt 2) = scOf (clAt 2) := rfl
    conv at h => rhs; whnf
    revert h
    exact fun (_ : @Eq Scope _ ?xs9) => ?xs9
  case p10 =>
    have h : prOf (clAt 3) = prOf (clAt 3) := rfl
    conv at h => rhs; whnf
    revert h
    exact fun (_ : @Eq Arguments _ ?xp10) => ?xp10
  case b10 =>
    have h : bdOf (clAt 3) = bdOf (clAt 3) := rfl
    conv at h => rhs; whnf
    revert h
    exact fun (_ : @Eq (List Stmt) _ ?xb10) => ?xb10
  case s10 =>
    have h : scOf (clAt 3) = scOf (clAt 3) := rfl
    conv at h => rhs; whnf
    revert h
    exact fun (_ : @Eq Scope _ ?xs10) => ?xs10
  case p11 =>
    have h : prOf (clAt 4) = prOf (clAt 4) := rfl
    conv at h => rhs; whnf
    revert h
    exact fun (_ : @Eq Arguments _ ?xp11) => ?xp11
  case b11 =>
    have h : bdOf (clAt 4) = bdOf (clAt 4) := rfl
    conv at h => rhs; whnf
    revert h
    exact fun (_ : @Eq (List Stmt) _ ?xb11) => ?xb11
  case s11 =>
    have h : scOf (clAt 4) = scOf (clAt 4) := rfl
    conv at h => rhs; whnf
    revert h
    exact fun (_ : @Eq Scope _ ?xs11) => ?xs11
  case p12 =>
    have h : prOf (clAt 5) = prOf (clAt 5) := rfl
    conv at h => rhs; whnf
    revert h
    exact fun (_ : @Eq Arguments _ ?xp12) => ?xp12
  case b12 =>
    have h : bdOf (clAt 5) = bdOf (clAt 5) := rfl
    conv at h => rhs; whnf
    revert h
    exact fun (_ : @Eq (List Stmt) _ ?xb12) => ?xb12
  case s12 =>
    have h : scOf (clAt 5) = scOf (clAt 5) := rfl
    conv at h => rhs; whnf
    revert h
    exact fun (_ : @Eq Scope _ ?xs12) => ?xs12
  case p13 =>
    have h : prOf (clAt 6) = prOf (clAt 6) := rfl
    conv at h => rhs; whnf
    revert h
    exact fun (_ : @Eq Arguments _ ?xp13) => ?xp13
  case b13 =>
    have h : bdOf (clAt 6) = bdOf (clAt 6) := rfl
    conv at h => rhs; whnf
    revert h
    exact fun (_ : @Eq (List Stmt) _ ?xb13) => ?xb13
  case s13 =>
    have h : scOf (clAt 6) = scOf (clAt 6) := rfl
    conv at h => rhs; whnf
    revert h
    exact fun (_ : @Eq Scope _ ?xs13) => ?xs13
  case p14 =>
    have h : prOf (clAt 7) = prOf (clAt 7) := rfl
    conv at h => rhs; whnf
    revert h
    exact fun (_ : @Eq Arguments _ ?xp14) => ?xp14
  case b14 =>
    have h : bdOf (clAt 7) = bdOf (clAt 7) := rfl
    conv at h => rhs; whnf
    revert h
    exact fun (_ : @Eq (List Stmt) _ ?xb14) => ?xb14
  case s14 =>
    have h : scOf (clAt 7) = scOf (clAt 7) := rfl
    conv at h => rhs; whnf
    revert h
    exact fun (_ : @Eq Scope _ ?xs14) => ?xs14
  case p15 =>
    have h : prOf (stAt 17) = prOf (stAt 17) := rfl
    conv at h => rhs; whnf
    revert h
    exact fun (_ : @Eq Arguments _ ?xp15) => ?xp15
  case b15 =>
    have h : bdOf (stAt 17) = bdOf (stAt 17) := rfl
    conv at h => rhs; whnf
    revert h
    exact fun (_ : @Eq (List Stmt) _ ?xb15) => ?xb15
  case s15 =>
    have h : scOf (stAt 17) = scOf (stAt 17) := rfl
    conv at h => rhs; whnf
    revert h
    exact fun (_ : @Eq Scope _ ?xs15) => ?xs15
  case p16 =>
    have h : prOf (stAt 18) = prOf (stAt 18) := rfl
    conv at h => rhs; whnf
    revert h
    exact fun (_ : @Eq Arguments _ ?xp16) => ?xp16
  case b16 =>
    have h : bdOf (stAt 18) = bdOf (stAt 18) := rfl
    conv at h => rhs; whnf
    revert h
    exact fun (_ : @Eq (List Stmt) _ ?xb16) => ?xb16
  case s16 =>
    have h : scOf (stAt 18) = scOf (stAt 18) := rfl
    conv at h => rhs; whnf
    revert h
    exact fun (_ : @Eq Scope _ ?xs16) => ?xs16
  case p17 =>
    have h : prOf (stAt 20) = prOf (stAt 20) := rfl
    conv at h => rhs; whnf
    revert h
    exact fun (_ : @Eq Arguments _ ?xp17) => ?xp17
  case b17 =>
    have h : bdOf (stAt 20) = bdOf (stAt 20) := rfl
    conv at h => rhs; whnf
    revert h
    exact fun (_ : @Eq (List Stmt) _ ?xb17) => ?xb17
  case s17 =>
    have h : scOf (stAt 20) = scOf (stAt 20) := rfl
    conv at h => rhs; whnf
    revert h
    exact fun (_ : @Eq Scope _ ?xs17) => ?xs17
  case p18 =>
    have h : prOf (stAt 21) = prOf (stAt 21) := rfl
    conv at h => rhs; whnf
    revert h
    exact fun (_ : @Eq Arguments _ ?xp18) => ?xp18
  case b18 =>
    have h : bdOf (stAt 21) = bdOf (stAt 21) := rfl
    conv at h => rhs; whnf
    revert h
    exact fun (_ : @Eq (List Stmt) _ ?xb18) => ?xb18
  case s18 =>
    have h : scOf (stAt 21) = scOf (stAt 21) := rfl
    conv at h => rhs; whnf
    revert h
    exact fun (_ : @Eq Scope _ ?xs18) => ?xs18
  case p19 =>
    have h : prOf (stAt 22) = prOf (stAt 22) := rfl
    conv at h => rhs; whnf
    revert h
    exact fun (_ : @Eq Arguments _ ?xp19) => ?xp19
  case b19 =>
    have h : bdOf (stAt 22) = bdOf (stAt 22) := rfl
    conv at h => rhs; whnf
    revert h
    exact fun (_ : @Eq (List Stmt) _ ?xb19) => ?xb19
  case s19 =>
    have h : scOf (stAt 22) = scOf (stAt 22) := rfl
    conv at h => rhs; whnf
    revert h
    exact fun (_ : @Eq Scope _ ?xs19) => ?xs19
  case p20 =>
    have h : prOf (stAt 23) = prOf (stAt 23) := rfl
    conv at h => rhs; whnf
    revert h
    exact fun (_ : @Eq Arguments _ ?xp20) => ?xp20
  case b20 =>
    have h : bdOf (stAt 23) = bdOf (stAt 23) := rfl
    conv at h => rhs; whnf
    revert h
    exact fun (_ : @Eq (List Stmt) _ ?xb20) => ?xb20
  case s20 =>
    have h : scOf (stAt 23) = scOf (stAt 23) := rfl
    conv at h => rhs; whnf
    revert h
    exact fun (_ : @Eq Scope _ ?xs20) => ?xs20
  case p21 =>
    have h : prOf (stAt 24) = prOf (stAt 24) := rfl
    conv at h => rhs; whnf
    revert h
    exact fun (_ : @Eq Arguments _ ?xp21) => ?xp21
  case b21 =>
    have h : bdOf (stAt 24) = bdOf (stAt 24) := rfl
    conv at h => rhs; whnf
    revert h
    exact fun (_ : @Eq (List Stmt) _ ?xb21) => ?xb21
  case s21 =>
    have h : scOf (stAt 24) = scOf (stAt 24) := rfl
    conv at h => rhs; whnf
    revert h
    exact fun (_ : @Eq Scope _ ?xs21) => ?xs21
  case p22 =>
    have h : prOf (stAt 25) = prOf (stAt 25) := rfl
    conv at h => rhs; whnf
    revert h
    exact fun (_ : @Eq Arguments _ ?xp22) => ?xp22
  case b22 =>
    have h : bdOf (stAt 25) = bdOf (stAt 25) := rfl
    conv at h => rhs; whnf
    revert h
    exact fun (_ : @Eq (List Stmt) _ ?xb22) => ?xb22
  case s22 =>
    have h : scOf (stAt 25) = scOf (stAt 25) := rfl
    conv at h => rhs; whnf
    revert h
    exact fun (_ : @Eq Scope _ ?xs22) => ?xs22
noncomputable def hd.view_39 : Program := by
  refine { PySem.Challenge.pw_tv0051_01 with main := { PySem.Challenge.pw_tv0051_01.main with body := [?v0, ?v4, ?v5, ?v6, ?v7, ?v8, ?v9, ?v10, ?v12, ?v14, ?v15, ?v16, ?v17, ?v18, ?v20, ?v21, ?v22, ?v23, ?v24, ?v25] } }
  case v0 =>
    have h : stAt 0 = stAt 0 := rfl
    conv at h => rhs; whnf
    revert h
    exact fun (_ : @Eq Stmt _ ?xv0) => ?xv0
  case v4 =>
    have h : stAt 4 = stAt 4 := rfl
    conv at h => rhs; whnf
    revert h
    exact fun (_ : @Eq Stmt _ ?xv4) => ?xv4
  case v5 =>
    have h : stAt 5 = stAt 5 := rfl
    conv at h => rhs; whnf
    revert h
    exact fun (_ : @Eq Stmt _ ?xv5) => ?xv5
  case v6 =>
    have h : stAt 6 = stAt 6 := rfl
    conv at h => rhs; whnf
    revert h
    exact fun (_ : @Eq Stmt _ ?xv6) => ?xv6
  case v7 =>
    have h : stAt 7 = stAt 7 := rfl
    conv at h => rhs; whnf
    revert h
    exact fun (_ : @Eq Stmt _ ?xv7) => ?xv7
  case v8 =>
    have h : stAt 8 = stAt 8 := rfl
    conv at h => rhs; whnf
    revert h
    exact fun (_ : @Eq Stmt _ ?xv8) => ?xv8
  case v9 =>
    have h : stAt 9 = stAt 9 := rfl
    conv at h => rhs; whnf
    revert h
    exact fun (_ : @Eq Stmt _ ?xv9) => ?xv9
  case v10 =>
    have h : stAt 10 = stAt 10 := rfl
    conv at h => rhs; whnf
    revert h
    exact fun (_ : @Eq Stmt _ ?xv10) => ?xv10
  case v12 =>
    have h : stAt 12 = stAt 12 := rfl
    conv at h => rhs; whnf
    revert h
    exact fun (_ : @Eq Stmt _ ?xv12) => ?xv12
  case v14 =>
    have h : stAt 14 = stAt 14 := rfl
    conv at h => rhs; whnf
    revert h
    exact fun (_ : @Eq Stmt _ ?xv14) => ?xv14
  case v15 =>
    have h : stAt 15 = stAt 15 := rfl
    conv at h => rhs; whnf
    revert h
    exact fun (_ : @Eq Stmt _ ?xv15) => ?xv15
  case v16 =>
    have h : stAt 16 = stAt 16 := rfl
    conv at h => rhs; whnf
    revert h
    exact fun (_ : @Eq Stmt _ ?xv16) => ?xv16
  case v17 =>
    have h : stAt 17 = stAt 17 := rfl
    conv at h => rhs; whnf
    revert h
    exact fun (_ : @Eq Stmt _ ?xv17) => ?xv17
  case v18 =>
    have h : stAt 18 = stAt 18 := rfl
    conv at h => rhs; whnf
    revert h
    exact fun (_ : @Eq Stmt _ ?xv18) => ?xv18
  case v20 =>
    have h : stAt 20 = stAt 20 := rfl
    conv at h => rhs; whnf
    revert h
    exact fun (_ : @Eq Stmt _ ?xv20) => ?xv20
  case v21 =>
    have h : stAt 21 = stAt 21 := rfl
    conv at h => rhs; whnf
    revert h
    exact fun (_ : @Eq Stmt _ ?xv21) => ?xv21
  case v22 =>
    have h : stAt 22 = stAt 22 := rfl
    conv at h => rhs; whnf
    revert h
    exact fun (_ : @Eq Stmt _ ?xv22) => ?xv22
  case v23 =>
    have h : stAt 23 = stAt 23 := rfl
    conv at h => rhs; whnf
    revert h
    exact fun (_ : @Eq Stmt _ ?xv23) => ?xv23
  case v24 =>
    have h : stAt 24 = stAt 24 := rfl
    conv at h => rhs; whnf
    revert h
    exact fun (_ : @Eq Stmt _ ?xv24) => ?xv24
  case v25 =>
    have h : stAt 25 = stAt 25 := rfl
    conv at h => rhs; whnf
    revert h
    exact fun (_ : @Eq Stmt _ ?xv25) => ?xv25
noncomputable abbrev hd.at : List Addr := 2 :: 3 :: 15 :: 17 :: 18 :: 20 :: 21 :: 22 :: 23 :: 24 :: 26 :: 27 :: 29 :: 30 :: 31 :: 33 :: 34 :: 36 :: 37 :: 38 :: 40 :: 41 :: 43 :: 44 :: 45 :: 47 :: 48 :: 50 :: 51 :: 52 :: 54 :: 55 :: 57 :: 58 :: 59 :: 61 :: 62 :: 64 :: 65 :: 66 :: 68 :: 69 :: 71 :: 72 :: 83 :: 85 :: 86 :: 88 :: 89 :: 90 :: 92 :: 93 :: 95 :: 96 :: 97 :: 99 :: 100 :: 102 :: 103 :: 104 :: 106 :: 107 :: 109 :: 110 :: 111 :: 113 :: 114 :: 116 :: 117 :: 118 :: 120 :: 121 :: 123 :: 124 :: 125 :: 127 :: 128 :: 130 :: 131 :: 132 :: 133 :: 134 :: 135 :: 136 :: 139 :: 141 :: 142 :: 144 :: 145 :: 146 :: 148 :: 149 :: 151 :: 152 :: 153 :: 155 :: 156 :: 158 :: 159 :: 160 :: 162 :: 163 :: 165 :: 166 :: 167 :: 169 :: 170 :: 172 :: 173 :: 174 :: 177 :: 178 :: 179 :: 182 :: 183 :: 184 :: 187 :: 188 :: []
theorem hd.at_eq : ∀ P : Params, hd.at = (hd.heap_39 P).map (·.1) := fun _ => by kernel_rfl
noncomputable abbrev hd.hook : Hook := kmHook hd.heap_39 hd.at hd.at_eq [53, 46]
noncomputable abbrev hd.loose : List Str := [Str.ofString "bisect_left", Str.ofString "Whitespace"]
theorem hd.left : LeftO PySem.Challenge.rw_tv0051_01.row.prog hd.view_39 hd.loose (fun s => xlAt hd.view_39 [] s && recOk (RowW.records PySem.Challenge.rw_tv0051_01.row.toRowW) s) hd.hook.obs hd.hook.val 2304 :=
  LeftO.of_split "special-get-raises" (fun w => by kernel_rfl)
theorem hd.said : PySem.Challenge.rw_tv0051_01.wellSaid = true := by kernel_rfl
theorem hd.ok : (chainsOk hd.view_39 && opensWell PySem.Challenge.rw_tv0051_01.row.prog && (frees PySem.Challenge.rw_tv0051_01.row.toRowW && PySem.Challenge.rw_tv0051_01.row.within.isEmpty)) = true := by decide +kernel
theorem hd.bare : PySem.Challenge.rw_tv0051_01.row.prog.bare := ⟨rfl, rfl, rfl, rfl, rfl, by decide +kernel⟩
theorem hd.prom : PySem.Challenge.rw_tv0051_01.row.toRowW.promised := by w_witness2
end Mine
end
section
open PySem PySem.W PyProof.Rows
set_option Elab.async false
set_option maxRecDepth 100000
set_option maxHeartbeats 8000000
namespace Mine
theorem wpAny_depth_le {α : Type} {M : Model} {A : Around} {t : Sem α} {Q : α → Shared → Prop} {E : Value → Shared → Prop} {s : Shared} {d : Nat} (h : wpAny M A t Q E s) (hd : d ≤ A.depth) : wpAny M { A with depth := d } t Q E s :=
  fun Γ p hΓ => h Γ p ⟨hΓ.1, Nat.le_trans hΓ.2.1 hd, hΓ.2.2⟩
theorem at_less {α : Type} {M : Model} {d u dp un : Nat} {gd : Option (List Code)} {cn : Str} {cs : Scope} {L a : Addr} {ccd : Value} {cl : List (Str × Addr)} {outer : List Env} {t : Sem α} {Q : α → Shared → Prop} {E : Value → Shared → Prop} {s : Shared}
    (h : wpAny M (ktrTop d u gd cn cs L a ccd cl outer) t Q E s) (hd : dp ≤ d) (hu : un ≤ u) : wpAny M (ktrTop dp un gd cn cs L a ccd cl outer) t Q E s :=
  wpAny_depth_le (A := ktrTop d un gd cn cs L a ccd cl outer) (wpAny_units_le (A := ktrTop d u gd cn cs L a ccd cl outer) h hu) hd
/-- a plain value comes back: nothing new is kept -/
noncomputable def ConS (w : World) (loose : List Str) (mean : ExcName → Option Value) (mg mb : Str → Option Value) (f : Addr) (d u : Nat) (pre : List (Addr × Obj) → Prop) (vs : List Value) (kw : List (Str × Value)) (R : Tok → Value) (G : Prop) : Prop :=
  ∀ (dp un : Nat) (gd : Option (List Code)) (cn : Str) (cs : Scope) (a : Addr) (ccd : Value) (cl : List (Str × Addr)) (outer : List Env) (A₀ : Around) (base h₀ : Heap) (L : Addr) (m : Str → Option Value) (s : Shared) (news : List (Addr × Obj)) (Q E : Value → Shared → Prop), dp ≤ d → un ≤ u → Below A₀ base outer h₀ → Fr h₀ L s.heap m → (hd.heap_39 w.params).In h₀ → News h₀ L s.heap news → Top topProg loose mean mg mb h₀ → cs.kind = .function → pre news →
    (∀ (t : Tok) (h' : Heap) (tk' : Nat), G → Fr h₀ L h' m → News h₀ L h' news → Q (R t) { s with heap := h', toks := tk' }) →
    wpAny (model PySem.Challenge.rw_tv0051_01.row.prog w) (ktrTop dp un gd cn cs L a ccd cl outer) (call (.ref f) vs kw) Q E s
theorem ConS.use {w : World} {loose : List Str} {mean : ExcName → Option Value} {mg mb : Str → Option Value} {f : Addr} {d u : Nat} {pre : List (Addr × Obj) → Prop} {vs : List Value} {kw : List (Str × Value)} {R : Tok → Value} {G : Prop} (C : ConS w loose mean mg mb f d u pre vs kw R G)
    {dp un : Nat} {gd : Option (List Code)} {cn : Str} {cs : Scope} {a : Addr} {ccd : Value} {cl : List (Str × Addr)} {outer : List Env} {A₀ : Around} {base h₀ : Heap} {L : Addr} {m : Str → Option Value} {s : Shared} {news : List (Addr × Obj)} {Q E : Value → Shared → Prop}
    (B : Below A₀ base outer h₀) (F : Fr h₀ L s.heap m) (X : (hd.heap_39 w.params).In h₀) (N : News h₀ L s.heap news) (T : Top topProg loose mean mg mb h₀) (hk : cs.kind = .function) (hp : pre news) (hd : dp ≤ d) (hu : un ≤ u)
    (ret : ∀ (t : Tok) (h' : Heap) (tk' : Nat), G → Fr h₀ L h' m → News h₀ L h' news → Q (R t) { s with heap := h', toks := tk' }) :
    wpAny (model PySem.Challenge.rw_tv0051_01.row.prog w) (ktrTop dp un gd cn cs L a ccd cl outer) (call (.ref f) vs kw) Q E s := C _ _ _ _ _ _ _ _ _ _ _ _ _ _ _ _ _ _ hd hu B F X N T hk hp ret
theorem ConS.intro {w : World} {loose : List Str} {mean : ExcName → Option Value} {mg mb : Str → Option Value} {f : Addr} {d u : Nat} {pre : List (Addr × Obj) → Prop} {vs : List Value} {kw : List (Str × Value)} {R : Tok → Value} {G : Prop}
    (C : ∀ (gd : Option (List Code)) (cn : Str) (cs : Scope) (a : Addr) (ccd : Value) (cl : List (Str × Addr)) (outer : List Env) (A₀ : Around) (base h₀ : Heap) (L : Addr) (m : Str → Option Value) (s : Shared) (news : List (Addr × Obj)) (Q E : Value → Shared → Prop), Below A₀ base outer h₀ → Fr h₀ L s.heap m → (hd.heap_39 w.params).In h₀ → News h₀ L s.heap news → Top topProg loose mean mg mb h₀ → cs.kind = .function → pre news →
      (∀ (t : Tok) (h' : Heap) (tk' : Nat), G → Fr h₀ L h' m → News h₀ L h' news → Q (R t) { s with heap := h', toks := tk' }) →
      wpAny (model PySem.Challenge.rw_tv0051_01.row.prog w) (ktrTop d u gd cn cs L a ccd cl outer) (call (.ref f) vs kw) Q E s) : ConS w loose mean mg mb f d u pre vs kw R G := by
  intro dp un gd cn cs a ccd cl outer A₀ base h₀ L m s news Q E hd hu B F X N T hk hp ret
  exact at_less (C gd cn cs a ccd cl outer A₀ base h₀ L m s news Q E B F X N T hk hp ret) hd hu
/-- one new object comes back -/
noncomputable def ConO (w : World) (loose : List Str) (mean : ExcName → Option Value) (mg mb : Str → Option Value) (f : Addr) (d u : Nat) (pre : List (Addr × Obj) → Prop) (vs : List Value) (kw : List (Str × Value)) (P : Obj → Prop) : Prop :=
  ∀ (dp un : Nat) (gd : Option (List Code)) (cn : Str) (cs : Scope) (a : Addr) (ccd : Value) (cl : List (Str × Addr)) (outer : List Env) (A₀ : Around) (base h₀ : Heap) (L : Addr) (m : Str → Option Value) (s : Shared) (news : List (Addr × Obj)) (Q E : Value → Shared → Prop), dp ≤ d → un ≤ u → Below A₀ base outer h₀ → Fr h₀ L s.heap m → (hd.heap_39 w.params).In h₀ → News h₀ L s.heap news → Top topProg loose mean mg mb h₀ → cs.kind = .function → pre news →
    (∀ (x : Addr) (o : Obj) (h' : Heap) (tk' : Nat), P o → Fr h₀ L h' m → News h₀ L h' ((x, o) :: news) → LCg.Off1 x news → Q (.ref x) { s with heap := h', toks := tk' }) →
    wpAny (model PySem.Challenge.rw_tv0051_01.row.prog w) (ktrTop dp un gd cn cs L a ccd cl outer) (call (.ref f) vs kw) Q E s
theorem ConO.use {w : World} {loose : List Str} {mean : ExcName → Option Value} {mg mb : Str → Option Value} {f : Addr} {d u : Nat} {pre : List (Addr × Obj) → Prop} {vs : List Value} {kw : List (Str × Value)} {P : Obj → Prop} (C : ConO w loose mean mg mb f d u pre vs kw P)
    {dp un : Nat} {gd : Option (List Code)} {cn : Str} {cs : Scope} {a : Addr} {ccd : Value} {cl : List (Str × Addr)} {outer : List Env} {A₀ : Around} {base h₀ : Heap} {L : Addr} {m : Str → Option Value} {s : Shared} {news : List (Addr × Obj)} {Q E : Value → Shared → Prop}
    (B : Below A₀ base outer h₀) (F : Fr h₀ L s.heap m) (X : (hd.heap_39 w.params).In h₀) (N : News h₀ L s.heap news) (T : Top topProg loose mean mg mb h₀) (hk : cs.kind = .function) (hp : pre news) (hd : dp ≤ d) (hu : un ≤ u)
    (ret : ∀ (x : Addr) (o : Obj) (h' : Heap) (tk' : Nat), P o → Fr h₀ L h' m → News h₀ L h' ((x, o) :: news) → LCg.Off1 x news → Q (.ref x) { s with heap := h', toks := tk' }) :
    wpAny (model PySem.Challenge.rw_tv0051_01.row.prog w) (ktrTop dp un gd cn cs L a ccd cl outer) (call (.ref f) vs kw) Q E s := C _ _ _ _ _ _ _ _ _ _ _ _ _ _ _ _ _ _ hd hu B F X N T hk hp ret
theorem ConO.intro {w : World} {loose : List Str} {mean : ExcName → Option Value} {mg mb : Str → Option Value} {f : Addr} {d u : Nat} {pre : List (Addr × Obj) → Prop} {vs : List Value} {kw : List (Str × Value)} {P : Obj → Prop}
    (C : ∀ (gd : Option (List Code)) (cn : Str) (cs : Scope) (a : Addr) (ccd : Value) (cl : List (Str × Addr)) (outer : List Env) (A₀ : Around) (base h₀ : Heap) (L : Addr) (m : Str → Option Value) (s : Shared) (news : List (Addr × Obj)) (Q E : Value → Shared → Prop), Below A₀ base outer h₀ → Fr h₀ L s.heap m → (hd.heap_39 w.params).In h₀ → News h₀ L s.heap news → Top topProg loose mean mg mb h₀ → cs.kind = .function → pre news →
      (∀ (x : Addr) (o : Obj) (h' : Heap) (tk' : Nat), P o → Fr h₀ L h' m → News h₀ L h' ((x, o) :: news) → LCg.Off1 x news → Q (.ref x) { s with heap := h', toks := tk' }) →
      wpAny (model PySem.Challenge.rw_tv0051_01.row.prog w) (ktrTop d u gd cn cs L a ccd cl outer) (call (.ref f) vs kw) Q E s) : ConO w loose mean mg mb f d u pre vs kw P := by
  intro dp un gd cn cs a ccd cl outer A₀ base h₀ L m s news Q E hd hu B F X N T hk hp ret
  exact at_less (C gd cn cs a ccd cl outer A₀ base h₀ L m s news Q E B F X N T hk hp ret) hd hu
noncomputable def MyMark (p : Prop) : Prop := p
theorem mark_of {p : Prop} (h : MyMark p) : p := h
theorem mark_in {p : Prop} (h : p) : MyMark p := h
theorem off1_of_lt {x : Addr} : ∀ {l : List (Addr × Obj)}, (∀ p ∈ l, p.1 < x) → LCg.Off1 x l
  | [], _ => trivial
  | p :: _, h => ⟨Nat.ne_of_lt (h p (.head _)), off1_of_lt fun q hq => h q (.tail _ hq)⟩
theorem off1_of_allLt {x : Addr} : ∀ {l : List (Addr × Obj)}, AllLt x l → LCg.Off1 x l
  | [], _ => trivial
  | _ :: _, h => ⟨Nat.ne_of_lt h.1, off1_of_allLt h.2⟩
theorem off1_ne {x : Addr} : ∀ {l : List (Addr × Obj)}, LCg.Off1 x l → ∀ p ∈ l, p.1 ≠ x
  | [], _, _, hp => nomatch hp
  | q :: r, h, p, hp => by
    rcases List.mem_cons.mp hp with rfl | hp
    · exact h.1
    · exact off1_ne h.2 p hp
/-- choose, as the text reckons it -/
noncomputable def chF (size some : Int) : Int := (List.foldl (fun (σ : Int × Unit) k => ((σ.fst * (size - k)).fdiv (k + 1), ())) (1, ()) (rangeInts 0 1 (some - 0).toNat)).fst
end Mine
end
namespace Mine
open PySem PySem.W PyProof.Rows
local macro_rules | `(tactic| walk_at "eval BinOp") => `(tactic| (k_here; k_fold; k_dflt walk1))
local macro_rules | `(tactic| walk_at "eval Call") => `(tactic| (k_here; k_fold; k_dflt walk1))
local macro_rules | `(tactic| walk_at "eval Compare") => `(tactic| (k_here; k_fold; k_dflt walk1))
local macro_rules | `(tactic| walk_at "eval Subscript") => `(tactic| (k_here; k_fold; k_dflt walk1))
local macro_rules | `(tactic| walk_at "eval Tuple") => `(tactic| (k_here; k_fold; k_dflt walk1))
local macro_rules | `(tactic| walk_at "eval List") => `(tactic| (k_here; k_fold; k_dflt walk1))
local macro_rules | `(tactic| walk_at "eval Attribute") => `(tactic| (k_here; k_fold; k_dflt walk1))
local macro_rules | `(tactic| walk_at "eval BoolOp") => `(tactic| (k_here; k_fold; k_dflt walk1))
local macro_rules | `(tactic| walk_at "eval IfExp") => `(tactic| (k_here; k_fold; k_dflt walk1))
local macro_rules | `(tactic| walk_at "eval JoinedStr") => `(tactic| (k_here; k_fold; k_dflt walk1))
local macro_rules | `(tactic| walk_at "eval UnaryOp") => `(tactic| (k_here; k_fold; k_dflt walk1))
local macro_rules | `(tactic| walk_at "isTrue Compare") => `(tactic| (k_here; k_fold; k_dflt walk1))
local macro_rules | `(tactic| walk_at "isTrue BoolOp") => `(tactic| (k_here; k_fold; k_dflt walk1))
local macro_rules | `(tactic| walk_at "isTrue UnaryOp") => `(tactic| (k_here; k_fold; k_dflt walk1))
local macro_rules | `(tactic| walk_at "exec Assign") => `(tactic| (k_here; k_fold; k_dflt walk1))
local macro_rules | `(tactic| walk_at "exec AugAssign") => `(tactic| (k_here; k_fold; k_dflt walk1))
local macro_rules | `(tactic| walk_at "exec Expr") => `(tactic| (k_here; k_fold; k_dflt walk1))
local macro_rules | `(tactic| walk_at "exec Return") => `(tactic| (k_here; k_fold; k_dflt walk1))
local macro_rules | `(tactic| walk_at "exec If") => `(tactic| (k_here; k_fold; k_dflt walk1))
section
local macro_rules | `(tactic| omega) => `(tactic| first | with_reducible assumption | ((with_reducible show (@Ne Nat _ _)); (repeat (with_reducible rename (And (@LT.lt Nat _ _ _) _) => hq9; first | with_reducible exact Nat.ne_of_gt hq9.1 | with_reducible exact Nat.ne_of_lt hq9.1 | with_reducible exact Nat.ne_of_gt hq9.2.1 | with_reducible exact Nat.ne_of_lt hq9.2.1 | with_reducible exact Nat.ne_of_gt hq9.2.2.1 | with_reducible exact Nat.ne_of_lt hq9.2.2.1 | with_reducible exact Nat.ne_of_gt hq9.2.2.2.1 | with_reducible exact Nat.ne_of_lt hq9.2.2.2.1 | with_reducible exact Nat.ne_of_gt hq9.2.2.2.2.1 | with_reducible exact Nat.ne_of_lt hq9.2.2.2.2.1 | with_reducible exact Nat.ne_of_gt hq9.2.2.2.2.2.1 | with_reducible exact Nat.ne_of_lt hq9.2.2.2.2.2.1 | with_reducible exact Nat.ne_of_gt hq9.2.2.2.2.2.2.1 | with_reducible exact Nat.ne_of_lt hq9.2.2.2.2.2.2.1 | with_reducible exact Nat.ne_of_gt hq9.2.2.2.2.2.2.2.1 | with_reducible exact Nat.ne_of_lt hq9.2.2.2.2.2.2.2.1 | with_reducible exact Nat.ne_of_gt hq9.2.2.2.2.2.2.2.2.1 | with_reducible exact Nat.ne_of_lt hq9.2.2.2.2.2.2.2.2.1 | with_reducible exact Nat.ne_of_gt hq9.2.2.2.2.2.2.2.2.2.1 | with_reducible exact Nat.ne_of_lt hq9.2.2.2.2.2.2.2.2.2.1 | clear hq9)); done) | ((repeat (with_reducible rename (@Eq Int _ _) => hq9; clear hq9)); (repeat (with_reducible rename (@Eq Nat _ _) => hq9; clear hq9)); omega (config := { splitDisjunctions := false, splitNatSub := false, splitNatAbs := false, splitMinMax := false })) | omega (config := { splitDisjunctions := false, splitNatSub := false, splitNatAbs := false, splitMinMax := false }) | ((first | with_reducible show False | with_reducible show (@Ne Nat _ _)); (iterate 30 (try (with_reducible rename (And _ _) => hq9; have hq8 := hq9.1; have hq7 := hq9.2; clear hq9))); first | with_reducible assumption | with_reducible contradiction | exact Ne.symm (by with_reducible assumption)) | omega (config := {}))
section
open PySem PySem.W PyProof.Rows
set_option Elab.async false
set_option maxRecDepth 100000
set_option maxHeartbeats 8000000
theorem ch_bnd (size some : Int) (h1 : 0 ≤ some) (h2 : some ≤ size) (h3 : size ≤ 6) (h4 : some ≤ 3) : 1 ≤ chF size some ∧ chF size some ≤ 20 := by
  have e1 : some = 0 ∨ some = 1 ∨ some = 2 ∨ some = 3 := by omega
  have e2 : size = 0 ∨ size = 1 ∨ size = 2 ∨ size = 3 ∨ size = 4 ∨ size = 5 ∨ size = 6 := by omega
  rcases e1 with rfl | rfl | rfl | rfl <;> rcases e2 with rfl | rfl | rfl | rfl | rfl | rfl | rfl <;> first | omega | decide +kernel
theorem choose_c {w : World} {loose : List Str} {mean : ExcName → Option Value} {mg mb : Str → Option Value} (size some : Int) (t1 t2 : Tok) :
    ConS w loose mean mg mb 159 900 8000 (fun news => 0 ≤ size ∧ size ≤ 6 ∧ 0 ≤ some ∧ some ≤ 3) [.int size t1, .int some t2] [] (fun t => .int (chF size some) t) (some ≤ size → 1 ≤ chF size some ∧ chF size some ≤ 20) := by
  refine ConS.intro ?_
  k_fill
  intros
  rename_i hp hret
  (try dsimp only at hret)
  (try dsimp only at hp)
  obtain ⟨p1, p2, p3, p4⟩ := hp
  refine wpAny_call ?_
  k_dflt cell_enter
  k_with_none
  w_strict (repeat' (first | (k_unfold; (try dsimp only)) | (with_reducible (k_here; (with_reducible show wpAny _ _ (storeName _ _ _) _ _ _); k_dflt ((first | refine' stI ?F ?N ?_ ?a ?b | refine' stS ?F ?N ?_ ?a ?b | refine' stA ?F ?N ?_ ?a ?b); (case F => k_asm); (case N => k_asm); (case a => exact Eq.refl ScopeKind.function); (case b => exact Eq.refl (some NameKind.local)); k_whole; intro hqi tqi uqi Fqi Nqi; (try k_sweep)))) | (with_reducible (k_here; (with_reducible show wpAny _ _ (eval (Expr.Name _ _) _) _ _ _); k_dflt (refine' nameX_L ?F ?v ?_ ?a ?b ?d; (case F => k_asm); (case a => exact Eq.refl ScopeKind.function); (case b => exact Eq.refl (some NameKind.local)); (case d => exact Eq.refl false); (case v => exact Eq.refl (some _)); k_whole))) | (k_end; wrow_close) | walk1 | (dsimp only; walk1) | (leave1; walk_say "STEP leave1"; try dsimp only)))
  all_goals exact cb_retI (fun t h' tk' => hret t h' tk' (fun h => ch_bnd _ _ (by omega) h (by omega) (by omega))) rfl (by k_asm) (by k_asm)
end
section
open PySem PySem.W PyProof.Rows
set_option Elab.async false
set_option maxRecDepth 100000
set_option maxHeartbeats 8000000
noncomputable def leadF : Nat → Int → Int → Int → Str → Str
  | 0, b, t, _, tail => Txt.mul (Str.ofString "\t") t ++ Txt.mul (Str.ofString " ") b ++ tail
  | n + 1, b, t, p, tail => if 0 < b ∧ 0 < t then
      (if p < chF (b - 1 + t) t then leadF n (b - 1) t p (Str.ofString " " ++ tail)
       else leadF n b (t - 1) (Int.fmod (p - chF (b - 1 + t) t + 1) (chF (b + (t - 1)) (t - 1))) (Str.ofString "\t" ++ tail)) else Txt.mul (Str.ofString "\t") t ++ Txt.mul (Str.ofString " ") b ++ tail
theorem fm_bnd (x c : Int) (h1 : 1 ≤ c) (h2 : c ≤ 20) : 0 ≤ Int.fmod x c ∧ Int.fmod x c < 20 := by
  rw [Int.fmod_eq_emod_of_nonneg x (by omega)]
  have := Int.emod_nonneg x (show c ≠ 0 by omega)
  have := Int.emod_lt_of_pos x (show 0 < c by omega)
  omega
noncomputable def LeadInv (b0 t0 p0 b t p : Int) (tail : Str) : Prop := ∃ n : Nat, leadF n b t p tail = leadF 6 b0 t0 p0 (Str.ofString "") ∧ b + t ≤ n ∧ n ≤ 6
theorem LeadInv.start {b t p : Int} (h : b + t ≤ 6) : LeadInv b t p b t p (Str.ofString "") := ⟨6, rfl, by omega, by omega⟩
theorem LeadInv.blank {b0 t0 p0 b t p : Int} {tail : Str} (h : LeadInv b0 t0 p0 b t p tail) (hb : 0 < b) (ht : 0 < t) (hp : p < chF (b - 1 + t) t) : LeadInv b0 t0 p0 (b - 1) t p (Str.ofString " " ++ tail) := by
  obtain ⟨n, e, h1, h2⟩ := h
  cases n with
  | zero => omega
  | succ n => exact ⟨n, by rw [← e, leadF, if_pos ⟨hb, ht⟩, if_pos hp], by omega, by omega⟩
theorem LeadInv.tab {b0 t0 p0 b t p : Int} {tail : Str} (h : LeadInv b0 t0 p0 b t p tail) (hb : 0 < b) (ht : 0 < t) (hp : ¬ p < chF (b - 1 + t) t) : LeadInv b0 t0 p0 b (t - 1) (Int.fmod (p - chF (b - 1 + t) t + 1) (chF (b + (t - 1)) (t - 1))) (Str.ofString "\t" ++ tail) := by
  obtain ⟨n, e, h1, h2⟩ := h
  cases n with
  | zero => omega
  | succ n => exact ⟨n, by rw [← e, leadF, if_pos ⟨hb, ht⟩, if_neg hp], by omega, by omega⟩
theorem LeadInv.done {b0 t0 p0 b t p : Int} {tail : Str} (h : LeadInv b0 t0 p0 b t p tail) (hn : ¬ (0 < b ∧ 0 < t)) : Txt.mul (Str.ofString "\t") t ++ Txt.mul (Str.ofString " ") b ++ tail = leadF 6 b0 t0 p0 (Str.ofString "") := by
  obtain ⟨n, e, h1, h2⟩ := h
  rw [← e]
  cases n with
  | zero => rfl
  | succ n => rw [leadF, if_neg hn]
theorem lead_c {w : World} {loose : List Str} {mean : ExcName → Option Value} {mg mb : Str → Option Value} (b t p : Int) (t1 t2 t3 : Tok) :
    ConS w loose mean mg mb 166 860 7500 (fun news => 1 ≤ b ∧ b ≤ 3 ∧ 1 ≤ t ∧ t ≤ 3 ∧ 0 ≤ p ∧ p < 20) [.int b t1, .int t t2, .int p t3] [] (fun tk => .str (leadF 6 b t p (Str.ofString "")) tk) True := by
  refine ConS.intro ?_
  k_fill
  intros
  rename_i hp hret
  (try dsimp only at hret)
  (try dsimp only at hp)
  obtain ⟨p1, p2, p3, p4, p5, p6⟩ := hp
  refine wpAny_call ?_
  k_dflt cell_enter
  k_with_none
  iterate 6 (first | walk1 | (dsimp only; walk1))
  have e0 : (Str.ofString "").length = 0 := by decide +kernel
  have e1 : (Str.ofString " ").length = 1 := by decide +kernel
  have e2 : (Str.ofString "\t").length = 1 := by decide +kernel
  (k_with "state" => (refine ⟨?_, ?_, ?_, ?_, ?_, ?_, ?_, ?_⟩ <;> first | omega | (simp only [Str.length_append] at *; omega) | exact LeadInv.start (by omega) | exact LeadInv.blank (by assumption) (by omega) (by omega) (by omega) | exact LeadInv.tab (by assumption) (by omega) (by omega) (by omega) | exact (fm_bnd _ _ (by omega) (by omega)).1 | exact (fm_bnd _ _ (by omega) (by omega)).2))
  k_while_given ["blanks!", "tabs!", "place!"] (fun b0 t0 p0 script b t p tail => 0 ≤ b ∧ b ≤ 3 ∧ 0 ≤ t ∧ t ≤ 3 ∧ 0 ≤ p ∧ p < 20 ∧ (tail.length : Int) + b + t = b0 + t0 ∧ LeadInv b0 t0 p0 b t p tail) (fun b0 t0 p0 script b t p tail => (b + t).toNat) "blanks" "tabs" "place" "tail"
  w_strict (repeat' (first | (k_unfold; (try dsimp only)) | (with_reducible (k_here; (with_reducible show wpAny _ _ (call (Value.ref 159) [Value.int _ _, Value.int _ _]) _ _ _); k_dflt ( refine' (choose_c _ _ _ _).use ?k1 ?k2 ?k3 ?k4 ?k5 ?kK ?kp ?kd ?ku ?_; (case k1 => k_asm); (case k2 => k_asm); (case k3 => k_asm); (case k4 => k_asm); (case k5 => k_asm); (case kK => first | exact rfl | assumption); (case kp => ((try dsimp only); omega)); (case kd => exact Nat.le_of_ble_eq_true rfl); (case ku => exact Nat.le_of_ble_eq_true rfl); intro t9qi h9qi tk9qi g9qi F9qi N9qi; (obtain ⟨c1qi, c2qi⟩ := g9qi (by omega)); (try dsimp only); (try k_fold)))) | (with_reducible (k_here; (with_reducible show wpAny _ _ (storeName _ _ _) _ _ _); k_dflt (refine' storeX_L ?F ?N ?_ ?a ?b; (case F => k_asm); (case N => k_asm); (case a => exact Eq.refl ScopeKind.function); (case b => exact Eq.refl (some NameKind.local)); k_whole; intro hqiqi Fqiqi Nqiqi; (try k_sweep)))) | (with_reducible (k_here; (with_reducible show wpAny _ _ (eval (Expr.Name _ _) _) _ _ _); k_dflt (refine' nameX_L ?F ?v ?_ ?a ?b ?d; (case F => k_asm); (case a => exact Eq.refl ScopeKind.function); (case b => exact Eq.refl (some NameKind.local)); (case d => exact Eq.refl false); (case v => exact Eq.refl (some _)); k_whole))) | (k_end; wrow_close) | walk1 | (dsimp only; walk1) | (leave1; walk_say "STEP leave1"; try dsimp only)))
  all_goals (try dsimp only at hret)
  all_goals (refine cb_retS (fun t h' tk' => hret t h' tk' trivial) ?_ (by k_asm) (by k_asm))
  all_goals exact LeadInv.done (by assumption) (by omega)
end
section
open PySem PySem.W PyProof.Rows PyProof.V PySem.Spec PySem.Calls
set_option Elab.async false
set_option maxRecDepth 100000
set_option maxHeartbeats 8000000
section
variable {prog : Program} {w : World} {A : Around} {E : Value → Shared → Prop} {s : Shared} {env : Env} {h₀ : Heap} {x : Str} {body : List Stmt} {Q : Flow → Shared → Prop}

noncomputable def TxEnd {σ : Type} (h₀ : Heap) (L : Addr) (x : Str) (Led : σ → List (Addr × Obj)) (ps : σ → List (Str × Value)) (stored : List Str) (m₀ : Str → Option Value) (P : σ → Prop) (I : Addr) (oI : Obj) (s₁ s₂ : Shared) : Prop :=
  ∃ (c : σ) (h' : Heap) (tk : Nat) (m' : Str → Option Value) (news' : List (Addr × Obj)), s₂ = { s₁ with heap := h', toks := tk } ∧ Fr h₀ L h' m' ∧ News h₀ L h' news' ∧ (I, oI) ∈ news' ∧ (∀ p ∈ Led c, p ∈ news') ∧ (∀ p ∈ Led c, p.1 ≠ I) ∧
    (∀ p ∈ ps c, m' p.1 = some p.2) ∧ (∀ z, z ≠ x → (∀ p ∈ ps c, z ≠ p.1) → stored.contains z = false → m' z = m₀ z) ∧ P c
noncomputable def TxPost {σ : Type} (h₀ : Heap) (L : Addr) (x : Str) (Led : σ → List (Addr × Obj)) (ps : σ → List (Str × Value)) (stored : List Str) (m₀ : Str → Option Value) (P : σ → Prop) (I : Addr) (oI : Obj) (Q : Flow → Shared → Prop) (s₁ : Shared) (f : Flow) (s₂ : Shared) : Prop :=
  match f with
  | .ret v => Q (.ret v) s₂
  | .brk => Q .next s₂
  | _ => TxEnd h₀ L x Led ps stored m₀ P I oI s₁ s₂
theorem TxEnd.mk' {σ : Type} {h₀ : Heap} {L : Addr} {x : Str} {Led : σ → List (Addr × Obj)} {ps : σ → List (Str × Value)} {stored : List Str} {m₀ : Str → Option Value} {P : σ → Prop} {I : Addr} {oI : Obj} {s₁ : Shared} (c : σ) {h' : Heap} {tk : Nat} {m' : Str → Option Value} {news' : List (Addr × Obj)}
    (F : Fr h₀ L h' m') (N : News h₀ L h' news') (hI : (I, oI) ∈ news') (hl : ∀ p ∈ Led c, p ∈ news') (hn : ∀ p ∈ Led c, p.1 ≠ I) (hk : ∀ p ∈ ps c, m' p.1 = some p.2) (hr : ∀ z, z ≠ x → (∀ p ∈ ps c, z ≠ p.1) → stored.contains z = false → m' z = m₀ z) (hp : P c) :
    TxEnd h₀ L x Led ps stored m₀ P I oI s₁ { s₁ with heap := h', toks := tk } := ⟨c, h', tk, m', news', rfl, F, N, hI, hl, hn, hk, hr, hp⟩

noncomputable def IterObj (o : Obj) : Prop := ∃ x y z : Int, o.data = .fields #[rawInt x, rawInt y, rawInt z]
theorem my_loop2 {σ : Type} (PI : Obj → Prop) {I : Addr} {n : Nat} {P : Nat → Value → Prop} {St : Nat → Heap → Prop} {m₀ : Str → Option Value} (Led : σ → List (Addr × Obj)) (ps : σ → List (Str × Value)) (stored : List Str) (Inv : Nat → σ → Prop) (c₀ : σ)
    (W : Walks prog w A I [I] [I] n P St) (hlive : ∀ i h, St i h → ∃ o, h.get? I = some o ∧ PI o) (hI0 : h₀.get? I = none) (hIL : env.locals ≠ I) (hst : St 0 s.heap) (F : Fr h₀ env.locals s.heap m₀) (N : News h₀ env.locals s.heap (Led c₀)) (hnw : ∀ p ∈ Led c₀, p.1 ≠ I)
    (hk : ∀ p ∈ ps c₀, m₀ p.1 = some p.2) (hp : Inv 0 c₀)
    (turn : ∀ (c : σ) (i : Nat) (v : Value) (u : Str → Option Value) (h : Heap) (tk : Nat) (oI : Obj), i < n → P i v → PI oI → Inv i c → (∀ p ∈ Led c, p.1 ≠ I) →
      Fr h₀ env.locals h (fun y => if y = x then some v else kstB (fun z => if stored.contains z then u z else m₀ z) (ps c) y) → News h₀ env.locals h ((I, oI) :: Led c) →
      wpAny (model prog w) A (execs body env) (TxPost h₀ env.locals x Led ps stored m₀ (Inv (i + 1)) I oI Q { s with heap := h, toks := tk }) E { s with heap := h, toks := tk })
    (done : ∀ (c : σ) (u : Str → Option Value) (h : Heap) (tk : Nat), Inv n c → Fr h₀ env.locals h (fun y => if y = x then u y else kstB (fun z => if stored.contains z then u z else m₀ z) (ps c) y) → News h₀ env.locals h (Led c) → Q .next { s with heap := h, toks := tk }) :
    LoopAtV prog w A h₀ env x body Q E (.ref I) s := by
  let J : Nat → (Str → Option Value) → List (Addr × Obj) → Prop := fun i m nx => ∃ c : σ, nx = Led c ∧ (∀ p ∈ ps c, m p.1 = some p.2) ∧ (∀ z, z ≠ x → (∀ p ∈ ps c, z ≠ p.1) → stored.contains z = false → m z = m₀ z) ∧ Inv i c
  have mem1 : ∀ {b : Addr}, b ∈ [I] → b = I := fun h => List.mem_singleton.mp h
  refine ⟨I, [I], [I], n, P, St, m₀, Led c₀, J, rfl, W, fun h => hIL (mem1 h), fun b hb => (mem1 hb) ▸ hI0, fun p hp' h => hnw p hp' (mem1 h), hst, F, N, ⟨c₀, rfl, hk, fun _ _ _ _ => rfl, hp⟩, ?_, ?_⟩
  · rintro i v m₁ news₁ s₁ own ⟨hh, tk', rfl⟩ hi hP ⟨c, rfl, h1, h2, hInv⟩ hoff hown hget hall hst₁ F₁ N₁
    obtain ⟨oI, hoI, hPI⟩ := hlive _ _ hst₁
    have hmem := hall I (.head _) hI0 oI hoI
    have N₂ : News h₀ env.locals hh ((I, oI) :: Led c) := fun p hp' => by
      rcases List.mem_cons.mp hp' with rfl | hp'
      · exact N₁ _ (List.mem_append_left _ hmem)
      · exact N₁ _ (List.mem_append_right _ hp')
    have ownEq : ∀ p ∈ own, p = (I, oI) := fun p hp' => by
      have e1 : p.1 = I := mem1 (hown p hp')
      have e2 := hget p hp'
      have hoI' : hh.get? I = some oI := hoI
      have e3 : hh.get? I = some p.2 := e1 ▸ e2
      rw [hoI'] at e3
      obtain ⟨a, b⟩ := p
      cases e1; cases e3; rfl
    refine wpAny_mono (turn c i v m₁ hh tk' oI hi hP hPI hInv (fun p hp' e => hoff p hp' (e ▸ .head _)) (kst_fr h1 h2 F₁) N₂) (fun f s₂ p => ?_) fun _ _ e => e
    have fin : TxEnd h₀ env.locals x Led ps stored m₀ (Inv (i + 1)) I oI { s with heap := hh, toks := tk' } s₂ → LoopStepU h₀ env.locals [I] own (J (i + 1)) { s with heap := hh, toks := tk' } .next s₂ := by
      rintro ⟨c', h', tk, m', news', e, F', N', hI, hl, hn, hk', hr, hp'⟩
      refine ⟨rfl, h', tk, m', Led c', e, F', fun p hq => N' p ?_, fun p hq hb => hn p hq (mem1 hb), c', rfl, hk', hr, hp'⟩
      rcases List.mem_append.mp hq with hq | hq
      · exact (ownEq p hq) ▸ hI
      · exact hl p hq
    cases f with
    | ret v => exact .ret p
    | brk => exact .brk p
    | next => exact .next (fin p)
    | cont => exact .cont (fin p)
  · rintro h' tk m' news' F' N' _ ⟨c, rfl, h1, h2, hInv⟩
    exact done c m' h' tk hInv (kst_frOut h1 h2 F') N'

theorem my_loop1 {σ : Type} {I : Addr} {n : Nat} {P : Nat → Value → Prop} {St : Nat → Heap → Prop} {m₀ : Str → Option Value} (Led : σ → List (Addr × Obj)) (ps : σ → List (Str × Value)) (stored : List Str) (Inv : Nat → σ → Prop) (c₀ : σ)
    (W : Walks prog w A I [I] [I] n P St) (hlive : ∀ i h, St i h → ∃ o, h.get? I = some o) (hI0 : h₀.get? I = none) (hIL : env.locals ≠ I) (hst : St 0 s.heap) (F : Fr h₀ env.locals s.heap m₀) (N : News h₀ env.locals s.heap (Led c₀)) (hnw : ∀ p ∈ Led c₀, p.1 ≠ I)
    (hk : ∀ p ∈ ps c₀, m₀ p.1 = some p.2) (hp : Inv 0 c₀)
    (turn : ∀ (c : σ) (i : Nat) (v : Value) (u : Str → Option Value) (h : Heap) (tk : Nat) (oI : Obj), i < n → P i v → Inv i c → (∀ p ∈ Led c, p.1 ≠ I) →
      Fr h₀ env.locals h (fun y => if y = x then some v else kstB (fun z => if stored.contains z then u z else m₀ z) (ps c) y) → News h₀ env.locals h ((I, oI) :: Led c) →
      wpAny (model prog w) A (execs body env) (TxPost h₀ env.locals x Led ps stored m₀ (Inv (i + 1)) I oI Q { s with heap := h, toks := tk }) E { s with heap := h, toks := tk })
    (done : ∀ (c : σ) (u : Str → Option Value) (h : Heap) (tk : Nat), Inv n c → Fr h₀ env.locals h (fun y => if y = x then u y else kstB (fun z => if stored.contains z then u z else m₀ z) (ps c) y) → News h₀ env.locals h (Led c) → Q .next { s with heap := h, toks := tk }) :
    LoopAtV prog w A h₀ env x body Q E (.ref I) s :=
  my_loop2 (fun _ => True) Led ps stored Inv c₀ W (fun i h st => let ⟨o, e⟩ := hlive i h st; ⟨o, e, trivial⟩) hI0 hIL hst F N hnw hk hp (fun c i v u h tk oI hi hP _ => turn c i v u h tk oI hi hP) done

theorem my_text {σ : Type} {xt : Str} {tx : Tok} {m₀ : Str → Option Value} (Led : σ → List (Addr × Obj)) (ps : σ → List (Str × Value)) (stored : List Str) (Inv : Nat → σ → Prop) (c₀ : σ)
    (hh : A.handled = none) (F : Fr h₀ env.locals s.heap m₀) (N : News h₀ env.locals s.heap (Led c₀)) (hk : ∀ p ∈ ps c₀, m₀ p.1 = some p.2) (hp : Inv 0 c₀)
    (turn : ∀ (c : σ) (i : Nat) (ch : Nat) (t : Tok) (u : Str → Option Value) (h : Heap) (tk : Nat) (I : Addr) (oI : Obj), xt.cps[i]? = some ch → Inv i c → (∀ p ∈ Led c, p.1 ≠ I) →
      Fr h₀ env.locals h (fun y => if y = x then some (.str ⟨#[ch]⟩ t) else kstB (fun z => if stored.contains z then u z else m₀ z) (ps c) y) → News h₀ env.locals h ((I, oI) :: Led c) →
      wpAny (model prog w) A (execs body env) (TxPost h₀ env.locals x Led ps stored m₀ (Inv (i + 1)) I oI Q { s with heap := h, toks := tk }) E { s with heap := h, toks := tk })
    (done : ∀ (c : σ) (u : Str → Option Value) (h : Heap) (tk : Nat), Inv xt.cps.size c → Fr h₀ env.locals h (fun y => if y = x then u y else kstB (fun z => if stored.contains z then u z else m₀ z) (ps c) y) → News h₀ env.locals h (Led c) → Q .next { s with heap := h, toks := tk }) :
    wpAny (model prog w) A (pyIter (.str xt tx)) (fun it s₂ => LoopAtV prog w A h₀ env x body Q E it s₂) E s := by
  have hI0 : h₀.get? s.heap.objs.size = none := by
    cases hq : h₀.get? s.heap.objs.size with
    | none => rfl
    | some o => exact absurd (Heap.lt_size (F.keep _ _ hq)) (Nat.lt_irrefl _)
  have hIL : env.locals ≠ s.heap.objs.size := Nat.ne_of_lt F.ns.lt
  have hnw : ∀ p ∈ Led c₀, p.1 ≠ s.heap.objs.size := fun p hp' => Nat.ne_of_lt (Heap.lt_size (N p hp').1)
  cases ha : xt.cps.all (· < 128)
  · refine wpAny_pyIter_wide ha ?_
    refine my_loop1 Led ps stored Inv c₀ (Walks.strWide hh _ xt tx) (fun i h st => ⟨_, st.choose_spec.1⟩) hI0 hIL ⟨_, Heap.get?_push_size _ rfl, rfl, rfl⟩ (F.push _) (fun p hp' => ⟨Heap.get?_push_of_some _ (N p hp').1, (N p hp').2⟩) hnw hk hp ?_ ?_
    · rintro c i v u h tk oI hi ⟨ch, t, hch, rfl⟩ hInv hne F₁ N₁
      exact turn c i ch t u h tk _ oI hch hInv hne F₁ N₁
    · intro c u h tk hInv F₁ N₁
      exact done c u h tk hInv F₁ N₁
  · refine wpAny_pyIter_ascii ha ?_
    refine my_loop1 Led ps stored Inv c₀ (Walks.strAscii hh _ xt tx) (fun i h st => ⟨_, st.choose_spec.1⟩) hI0 hIL ⟨_, Heap.get?_push_size _ rfl, rfl, rfl⟩ (F.push _) (fun p hp' => ⟨Heap.get?_push_of_some _ (N p hp').1, (N p hp').2⟩) hnw hk hp ?_ ?_
    · rintro c i v u h tk oI hi ⟨ch, t, hch, rfl⟩ hInv hne F₁ N₁
      exact turn c i ch t u h tk _ oI hch hInv hne F₁ N₁
    · intro c u h tk hInv F₁ N₁
      exact done c u h tk hInv F₁ N₁

theorem my_range2 {σ : Type} {r : Addr} {b₀ : Int} {t₀ u₀ v₀ : Tok} {n : Nat} {m₀ : Str → Option Value} (Led : σ → List (Addr × Obj)) (ps : σ → List (Str × Value)) (stored : List Str) (Inv : Nat → σ → Prop) (c₀ : σ)
    (hh : A.handled = none) (hr : IsRange s.heap r 0 b₀ 1 t₀ u₀ v₀) (hsmall : Builtin.Range.small 0 b₀ 1 = true) (hn : Builtin.Range.rangeSize 0 b₀ 1 = (n : Int)) (F : Fr h₀ env.locals s.heap m₀) (N : News h₀ env.locals s.heap (Led c₀)) (hk : ∀ p ∈ ps c₀, m₀ p.1 = some p.2) (hp : Inv 0 c₀)
    (turn : ∀ (c : σ) (i : Nat) (t : Tok) (u : Str → Option Value) (h : Heap) (tk : Nat) (I : Addr) (oI : Obj), i < n → IterObj oI → Inv i c → (∀ p ∈ Led c, p.1 ≠ I) →
      Fr h₀ env.locals h (fun y => if y = x then some (.int (i : Int) t) else kstB (fun z => if stored.contains z then u z else m₀ z) (ps c) y) → News h₀ env.locals h ((I, oI) :: Led c) →
      wpAny (model prog w) A (execs body env) (TxPost h₀ env.locals x Led ps stored m₀ (Inv (i + 1)) I oI Q { s with heap := h, toks := tk }) E { s with heap := h, toks := tk })
    (done : ∀ (c : σ) (u : Str → Option Value) (h : Heap) (tk : Nat), Inv n c → Fr h₀ env.locals h (fun y => if y = x then u y else kstB (fun z => if stored.contains z then u z else m₀ z) (ps c) y) → News h₀ env.locals h (Led c) → Q .next { s with heap := h, toks := tk }) :
    wpAny (model prog w) A (pyIter (.ref r)) (fun it s₂ => LoopAtV prog w A h₀ env x body Q E it s₂) E s := by
  have hI0 : h₀.get? s.heap.objs.size = none := by
    cases hq : h₀.get? s.heap.objs.size with
    | none => rfl
    | some o => exact absurd (Heap.lt_size (F.keep _ _ hq)) (Nat.lt_irrefl _)
  have hIL : env.locals ≠ s.heap.objs.size := Nat.ne_of_lt F.ns.lt
  have hnw : ∀ p ∈ Led c₀, p.1 ≠ s.heap.objs.size := fun p hp' => Nat.ne_of_lt (Heap.lt_size (N p hp').1)
  refine wpAny_pyIter_range hr hsmall ?_
  have W : Walks prog w A s.heap.objs.size [s.heap.objs.size] [s.heap.objs.size] n (fun i v => i < n ∧ ∃ t, v = .int (0 + i * 1) t)
      (fun i h => IsRangeIter h s.heap.objs.size (0 + (i : Nat) * 1) ((n : Int) - (i : Nat)) 1) := (Walks.range hh _ 0 1 n).bound
  refine my_loop2 IterObj Led ps stored Inv c₀ W (fun i h st => ⟨_, st, _, _, _, rfl⟩) hI0 hIL (by show IsRangeIter _ _ _ _ _; rw [hn]; simpa using Heap.get?_push_size _ rfl) (F.push _) (fun p hp' => ⟨Heap.get?_push_of_some _ (N p hp').1, (N p hp').2⟩) hnw hk hp ?_ ?_
  · rintro c i v u h tk oI hi ⟨_, t, rfl⟩ hPI hInv hne F₁ N₁
    have e1 : 0 + (i : Int) * 1 = (i : Int) := by omega
    rw [e1] at F₁
    exact turn c i t u h tk _ oI hi hPI hInv hne F₁ N₁
  · intro c u h tk hInv F₁ N₁
    exact done c u h tk hInv F₁ N₁
theorem my_range {σ : Type} {r : Addr} {b₀ : Int} {t₀ u₀ v₀ : Tok} {n : Nat} {m₀ : Str → Option Value} (Led : σ → List (Addr × Obj)) (ps : σ → List (Str × Value)) (stored : List Str) (Inv : Nat → σ → Prop) (c₀ : σ)
    (hh : A.handled = none) (hr : IsRange s.heap r 0 b₀ 1 t₀ u₀ v₀) (hsmall : Builtin.Range.small 0 b₀ 1 = true) (hn : Builtin.Range.rangeSize 0 b₀ 1 = (n : Int)) (F : Fr h₀ env.locals s.heap m₀) (N : News h₀ env.locals s.heap (Led c₀)) (hk : ∀ p ∈ ps c₀, m₀ p.1 = some p.2) (hp : Inv 0 c₀)
    (turn : ∀ (c : σ) (i : Nat) (t : Tok) (u : Str → Option Value) (h : Heap) (tk : Nat) (I : Addr) (oI : Obj), i < n → Inv i c → (∀ p ∈ Led c, p.1 ≠ I) →
      Fr h₀ env.locals h (fun y => if y = x then some (.int (i : Int) t) else kstB (fun z => if stored.contains z then u z else m₀ z) (ps c) y) → News h₀ env.locals h ((I, oI) :: Led c) →
      wpAny (model prog w) A (execs body env) (TxPost h₀ env.locals x Led ps stored m₀ (Inv (i + 1)) I oI Q { s with heap := h, toks := tk }) E { s with heap := h, toks := tk })
    (done : ∀ (c : σ) (u : Str → Option Value) (h : Heap) (tk : Nat), Inv n c → Fr h₀ env.locals h (fun y => if y = x then u y else kstB (fun z => if stored.contains z then u z else m₀ z) (ps c) y) → News h₀ env.locals h (Led c) → Q .next { s with heap := h, toks := tk }) :
    wpAny (model prog w) A (pyIter (.ref r)) (fun it s₂ => LoopAtV prog w A h₀ env x body Q E it s₂) E s :=
  my_range2 Led ps stored Inv c₀ hh hr hsmall hn F N hk hp (fun c i t u h tk I oI hi _ => turn c i t u h tk I oI hi) done
end
end
section
open PySem PySem.W PyProof.Rows
set_option Elab.async false
set_option maxRecDepth 100000
set_option maxHeartbeats 8000000

noncomputable abbrev WsV := Int × Int × Int × List Int
noncomputable def bump (b : Int) (cnt : List Int) : List Int :=
  let c2 := if (cnt.length : Int) ≤ b then cnt ++ (List.replicate (b - cnt.length + 1).toNat [0]).flatten else cnt
  c2.set b.toNat (c2.getD b.toNat 0 + 1)
noncomputable def wsStep (v : WsV) (c : Nat) : WsV := if c = 32 then (v.1 + 1, v.2.1 + 1, v.2.2.1, v.2.2.2) else (0, v.2.1 + 1, v.2.2.1 + 1, bump v.1 v.2.2.2)
noncomputable def wsRun (x : Str) (i : Nat) : WsV := (x.cps.toList.take i).foldl wsStep (0, 0, 0, [])
noncomputable def Blank (x : Str) : Prop := ∀ c ∈ x.cps.toList, c = 32 ∨ c = 9
theorem wsRun_succ {x : Str} {i c : Nat} (h : x.cps[i]? = some c) : wsRun x (i + 1) = wsStep (wsRun x i) c := by
  unfold wsRun
  have h' : x.cps.toList[i]? = some c := by simpa using h
  rw [List.take_add_one, h']
  simp
theorem bump_len (b : Int) (h0 : 0 ≤ b) (cnt : List Int) : ((bump b cnt).length : Int) = max (cnt.length : Int) (b + 1) := by
  unfold bump
  simp only
  split <;> simp [List.length_flatten] <;> omega
theorem wsRun_bnd (x : Str) : ∀ i, 0 ≤ (wsRun x i).1 ∧ (wsRun x i).1 ≤ i ∧ 0 ≤ (wsRun x i).2.1 ∧ (wsRun x i).2.1 ≤ i ∧ 0 ≤ (wsRun x i).2.2.1 ∧ (wsRun x i).2.2.1 ≤ i ∧ ((wsRun x i).2.2.2.length : Int) ≤ i + 1
  | 0 => by simp [wsRun]
  | i + 1 => by
    have ih := wsRun_bnd x i
    cases hc : x.cps[i]? with
    | none =>
      have hl : x.cps.toList.length ≤ i := by simpa using hc
      have e : wsRun x (i + 1) = wsRun x i := by unfold wsRun; rw [List.take_of_length_le (by omega), List.take_of_length_le hl]
      rw [e]; omega
    | some c =>
      rw [wsRun_succ hc]
      unfold wsStep
      split
      · dsimp only; omega
      · dsimp only
        have := bump_len (wsRun x i).1 ih.1 (wsRun x i).2.2.2
        omega
structure WSt where
  l : Addr
  vs : List Value
  e : Nat
  b : Int
  tb : Tok
  n : Int
  tn : Tok
  nt : Int
  tt : Tok
noncomputable abbrev wsLed (rest : List (Addr × Obj)) (c : WSt) : List (Addr × Obj) := (c.l, listOf c.vs.toArray c.e) :: rest
noncomputable abbrev wsPs (c : WSt) : List (Str × Value) := [(Str.ofString "b", .int c.b c.tb), (Str.ofString "n", .int c.n c.tn), (Str.ofString "nt", .int c.nt c.tt), (Str.ofString "count", .ref c.l)]
noncomputable def WsInv (rest : List (Addr × Obj)) (x : Str) (i : Nat) (c : WSt) : Prop := ∃ ns, IntsAre c.vs ns ∧ wsRun x i = (c.b, c.n, c.nt, ns) ∧ AllLt c.l rest
noncomputable abbrev WsPost (h₀ : Heap) (L : Addr) (rest : List (Addr × Obj)) (m₀ : Str → Option Value) (x : Str) (i : Nat) (I : Addr) (oI : Obj) (Q : Flow → Shared → Prop) (s₁ : Shared) (f : Flow) (s₂ : Shared) : Prop :=
  TxPost h₀ L (Str.ofString "ch") (wsLed rest) wsPs [] m₀ (WsInv rest x i) I oI Q s₁ f s₂
theorem ws_loop {prog : Program} {w : World} {A : Around} {E : Value → Shared → Prop} {s : Shared} {env : Env} {h₀ : Heap} {body : List Stmt} {Q : Flow → Shared → Prop} {x : Str} {tx : Tok} {m₀ : Str → Option Value} {l : Addr} {rest : List (Addr × Obj)} {t1 t2 t3 : Tok}
    (F : Fr h₀ env.locals s.heap m₀) (N : News h₀ env.locals s.heap ((l, listOf #[] 0) :: rest)) (hh : A.handled = none) (hx : Blank x) (hlt : AllLt l rest) (h1 : m₀ (Str.ofString "b") = some (.int 0 t1)) (h2 : m₀ (Str.ofString "n") = some (.int 0 t2)) (h3 : m₀ (Str.ofString "nt") = some (.int 0 t3)) (h4 : m₀ (Str.ofString "count") = some (.ref l))
    (turn : ∀ (l : Addr) (vs : List Value) (ns : List Int) (e : Nat) (b : Int) (tb : Tok) (n : Int) (tn : Tok) (nt : Int) (tt : Tok) (i ch : Nat) (t : Tok) (u : Str → Option Value) (h : Heap) (tk : Nat) (I : Addr) (oI : Obj), i < x.length → ch = 32 ∨ ch = 9 → x.cps[i]? = some ch → IntsAre vs ns → wsRun x i = (b, n, nt, ns) → 
      0 ≤ b → b ≤ i → 0 ≤ n → n ≤ i → 0 ≤ nt → nt ≤ i → (ns.length : Int) ≤ i + 1 → AllLt l rest → @Ne Nat l I → (∀ p ∈ rest, p.1 ≠ I) →
      Fr h₀ env.locals h (fun y => if y = Str.ofString "ch" then some (.str ⟨#[ch]⟩ t) else if y = Str.ofString "b" then some (.int b tb) else if y = Str.ofString "n" then some (.int n tn) else if y = Str.ofString "nt" then some (.int nt tt) else if y = Str.ofString "count" then some (.ref l) else m₀ y) → 
      News h₀ env.locals h ((I, oI) :: (l, listOf vs.toArray e) :: rest) →
      wpAny (model prog w) A (execs body env) (WsPost h₀ env.locals rest m₀ x (i + 1) I oI Q { s with heap := h, toks := tk }) E { s with heap := h, toks := tk })
    (done : ∀ (l : Addr) (vs : List Value) (ns : List Int) (e : Nat) (b : Int) (tb : Tok) (n : Int) (tn : Tok) (nt : Int) (tt : Tok) (u : Str → Option Value) (h : Heap) (tk : Nat), IntsAre vs ns → wsRun x x.length = (b, n, nt, ns) → AllLt l rest → 0 ≤ b → b ≤ x.length → (ns.length : Int) ≤ x.length + 1 → 
      Fr h₀ env.locals h (fun y => if y = Str.ofString "ch" then u y else if y = Str.ofString "b" then some (.int b tb) else if y = Str.ofString "n" then some (.int n tn) else if y = Str.ofString "nt" then some (.int nt tt) else if y = Str.ofString "count" then some (.ref l) else m₀ y) →
      News h₀ env.locals h ((l, listOf vs.toArray e) :: rest) → Q .next { s with heap := h, toks := tk }) :
    wpAny (model prog w) A (pyIter (.str x tx)) (fun it s₂ => LoopAtV prog w A h₀ env (Str.ofString "ch") body Q E it s₂) E s := by
  refine my_text (wsLed rest) wsPs [] (WsInv rest x) ⟨l, [], 0, 0, t1, 0, t2, 0, t3⟩ hh F N ?_ ⟨[], .nil, rfl, hlt⟩ ?_ ?_
  · intro p hp
    rcases List.mem_cons.mp hp with rfl | hp
    · exact h1
    rcases List.mem_cons.mp hp with rfl | hp
    · exact h2
    rcases List.mem_cons.mp hp with rfl | hp
    · exact h3
    rcases List.mem_cons.mp hp with rfl | hp
    · exact h4
    cases hp
  · rintro ⟨l, vs, e, b, tb, n, tn, nt, tt⟩ i ch t u h tk I oI hch ⟨ns, hns, hr, hlt⟩ hne F₁ N₁
    dsimp only at hns hr
    have hb := wsRun_bnd x i
    rw [hr] at hb
    dsimp only at hb
    obtain ⟨b1, b2, b3, b4, b5, b6, b7⟩ := hb
    have hlen : i < x.length := by
      have : i < x.cps.size := by
        rcases Nat.lt_or_ge i x.cps.size with q | q
        · exact q
        · rw [Array.getElem?_eq_none q] at hch; cases hch
      exact this
    refine turn l vs ns e b tb n tn nt tt i ch t u h tk I oI hlen (hx ch ?_) hch hns hr b1 b2 b3 b4 b5 b6 b7 hlt (hne _ (.head _)) (fun p hp => hne p (.tail _ hp)) ?_ N₁
    · have := Array.mem_of_getElem? hch
      exact Array.mem_toList_iff.mpr this
    · simpa only [kstB, List.contains_nil, Bool.false_eq_true, if_false] using F₁
  · rintro ⟨l, vs, e, b, tb, n, tn, nt, tt⟩ u h tk ⟨ns, hns, hr, hlt⟩ F₁ N₁
    dsimp only at hns hr
    have hb := wsRun_bnd x x.cps.size
    rw [hr] at hb
    dsimp only at hb
    obtain ⟨b1, b2, b3, b4, b5, b6, b7⟩ := hb
    refine done l vs ns e b tb n tn nt tt u h tk hns hr hlt b1 b2 b7 ?_ N₁
    simpa only [kstB, List.contains_nil, Bool.false_eq_true, if_false] using F₁

theorem bump_ge {b : Int} {ns : List Int} (h : (ns.length : Int) ≤ b) : bump b ns = (ns ++ (List.replicate (b - ns.length + 1).toNat [0]).flatten).set b.toNat ((ns ++ (List.replicate (b - ns.length + 1).toNat [0]).flatten).getD b.toNat 0 + 1) := by
  unfold bump; rw [if_pos h]
theorem bump_lt {b : Int} {ns : List Int} (h : ¬ (ns.length : Int) ≤ b) : bump b ns = ns.set b.toNat (ns.getD b.toNat 0 + 1) := by
  unfold bump; rw [if_neg h]
theorem ws_tab {b n nt : Int} {ns r : List Int} (h : bump b ns = r) : wsStep (b, n, nt, ns) 9 = (0, n + 1, nt + 1, r) := by rw [← h]; rfl
theorem my_ne {d : Addr} : ∀ {l : List (Addr × Obj)}, AllLt d l → ∀ p ∈ l, p.1 ≠ d
  | [], _, _, hp => nomatch hp
  | q :: r, h, p, hp => by
    rcases List.mem_cons.mp hp with rfl | hp
    · exact Nat.ne_of_lt h.1
    · exact my_ne h.2 p hp
local macro_rules | `(tactic| k_all) => `(tactic| exact my_ne (by assumption))
theorem my_tupleOf {prog : Program} {w : World} {A : Around} {E : Value → Shared → Prop} {s : Shared} {h₀ : Heap} {L l : Addr} {m : Str → Option Value} {news : List (Addr × Obj)} {vs : List Value} {Q : Value → Shared → Prop} (F : Fr h₀ L s.heap m) (N : News h₀ L s.heap news) (hl : s.heap.IsList l vs.toArray) (hz : vs.length ≤ 16384)
    (h : ∀ D h', Fr h₀ L h' m → News h₀ L h' ((D, ({ cls := .type "tuple", data := .seq vs.toArray } : Obj)) :: news) → (∀ p ∈ news, p.1 < D) → Q (.ref D) { s with heap := h' }) : wpAny (model prog w) A (call (.type "tuple") [.ref l]) Q E s :=
  kde_tupleOf F N hl (by simpa using hz) (by simp) h
noncomputable abbrev wsEntry (w : World) (n : String) (k : Tok) (v : Value) : DictEntry := { hash := PyData.keyHash w.params (Str.ofString n), key := .str (Str.ofString n) k, val := v }
/-- what a new Whitespace is, newest first -/
noncomputable abbrev wsObjs (w : World) (x : Str) (xi dx tc tn : Addr) (vs : List Value) (tb t1 t2 t3 k1 k2 k3 k4 k5 : Tok) : List (Addr × Obj) :=
  [(tn, { cls := .type "tuple", data := .seq #[.ref tc, .int (wsRun x x.length).1 tb] }), (tc, { cls := .type "tuple", data := .seq vs.toArray }), (xi, instObj 134 dx),
   (dx, dictOf [wsEntry w "raw" k1 (.str x t1), wsEntry w "n" k2 (.int (wsRun x x.length).2.1 t2), wsEntry w "nt" k3 (.int (wsRun x x.length).2.2.1 t3), wsEntry w "norm" k4 (.ref tn), wsEntry w "is_simple" k5 (.bool (decide (((wsRun x x.length).2.2.2.length : Int) ≤ 1)))] 5)]
noncomputable def ConW (w : World) (loose : List Str) (mean : ExcName → Option Value) (mg mb : Str → Option Value) (d u : Nat) (x : Str) (t : Tok) : Prop :=
  ∀ (dp un : Nat) (gd : Option (List Code)) (cn : Str) (cs : Scope) (a : Addr) (ccd : Value) (cl : List (Str × Addr)) (outer : List Env) (A₀ : Around) (base h₀ : Heap) (L : Addr) (m : Str → Option Value) (s : Shared) (news : List (Addr × Obj)) (Q E : Value → Shared → Prop), dp ≤ d → un ≤ u →
    Below A₀ base outer h₀ → Fr h₀ L s.heap m → (hd.heap_39 w.params).In h₀ → News h₀ L s.heap news → Top topProg loose mean mg mb h₀ → cs.kind = .function → (x.length ≤ 10 ∧ Blank x) →
    (∀ (xi dx tc tn : Addr) (vs : List Value) (tb t1 t2 t3 k1 k2 k3 k4 k5 : Tok) (h' : Heap) (tk' : Nat), IntsAre vs (wsRun x x.length).2.2.2 → Fr h₀ L h' m → News h₀ L h' (wsObjs w x xi dx tc tn vs tb t1 t2 t3 k1 k2 k3 k4 k5 ++ news) →
      AllLt dx news → @LT.lt Nat _ dx xi → @LT.lt Nat _ xi tc → @LT.lt Nat _ tc tn → Q (.ref xi) { s with heap := h', toks := tk' }) →
    wpAny (model PySem.Challenge.rw_tv0051_01.row.prog w) (ktrTop dp un gd cn cs L a ccd cl outer) (call (.ref 134) [.str x t] []) Q E s
theorem ConW.use {w : World} {loose : List Str} {mean : ExcName → Option Value} {mg mb : Str → Option Value} {d u : Nat} {x : Str} {t : Tok} (C : ConW w loose mean mg mb d u x t)
    {dp un : Nat} {gd : Option (List Code)} {cn : Str} {cs : Scope} {a : Addr} {ccd : Value} {cl : List (Str × Addr)} {outer : List Env} {A₀ : Around} {base h₀ : Heap} {L : Addr} {m : Str → Option Value} {s : Shared} {news : List (Addr × Obj)} {Q E : Value → Shared → Prop}
    (B : Below A₀ base outer h₀) (F : Fr h₀ L s.heap m) (X : (hd.heap_39 w.params).In h₀) (N : News h₀ L s.heap news) (T : Top topProg loose mean mg mb h₀) (hk : cs.kind = .function) (hp : x.length ≤ 10 ∧ Blank x) (hd : dp ≤ d) (hu : un ≤ u)
    (ret : ∀ (xi dx tc tn : Addr) (vs : List Value) (tb t1 t2 t3 k1 k2 k3 k4 k5 : Tok) (h' : Heap) (tk' : Nat), IntsAre vs (wsRun x x.length).2.2.2 → Fr h₀ L h' m → News h₀ L h' (wsObjs w x xi dx tc tn vs tb t1 t2 t3 k1 k2 k3 k4 k5 ++ news) →
      AllLt dx news → @LT.lt Nat _ dx xi → @LT.lt Nat _ xi tc → @LT.lt Nat _ tc tn → Q (.ref xi) { s with heap := h', toks := tk' }) :
    wpAny (model PySem.Challenge.rw_tv0051_01.row.prog w) (ktrTop dp un gd cn cs L a ccd cl outer) (call (.ref 134) [.str x t] []) Q E s := C _ _ _ _ _ _ _ _ _ _ _ _ _ _ _ _ _ _ hd hu B F X N T hk hp ret
theorem ConW.intro {w : World} {loose : List Str} {mean : ExcName → Option Value} {mg mb : Str → Option Value} {d u : Nat} {x : Str} {t : Tok}
    (C : ∀ (gd : Option (List Code)) (cn : Str) (cs : Scope) (a : Addr) (ccd : Value) (cl : List (Str × Addr)) (outer : List Env) (A₀ : Around) (base h₀ : Heap) (L : Addr) (m : Str → Option Value) (s : Shared) (news : List (Addr × Obj)) (Q E : Value → Shared → Prop),
      Below A₀ base outer h₀ → Fr h₀ L s.heap m → (hd.heap_39 w.params).In h₀ → News h₀ L s.heap news → Top topProg loose mean mg mb h₀ → cs.kind = .function → (x.length ≤ 10 ∧ Blank x) →
      (∀ (xi dx tc tn : Addr) (vs : List Value) (tb t1 t2 t3 k1 k2 k3 k4 k5 : Tok) (h' : Heap) (tk' : Nat), IntsAre vs (wsRun x x.length).2.2.2 → Fr h₀ L h' m → News h₀ L h' (wsObjs w x xi dx tc tn vs tb t1 t2 t3 k1 k2 k3 k4 k5 ++ news) →
        AllLt dx news → @LT.lt Nat _ dx xi → @LT.lt Nat _ xi tc → @LT.lt Nat _ tc tn → Q (.ref xi) { s with heap := h', toks := tk' }) →
      wpAny (model PySem.Challenge.rw_tv0051_01.row.prog w) (ktrTop d u gd cn cs L a ccd cl outer) (call (.ref 134) [.str x t] []) Q E s) : ConW w loose mean mg mb d u x t := by
  intro dp un gd cn cs a ccd cl outer A₀ base h₀ L m s news Q E hd hu B F X N T hk hp ret
  exact at_less (C gd cn cs a ccd cl outer A₀ base h₀ L m s news Q E B F X N T hk hp ret) hd hu
theorem make_c {w : World} {loose : List Str} {mean : ExcName → Option Value} {mg mb : Str → Option Value} (x : Str) (t : Tok) : ConW w loose mean mg mb 900 8000 x t := by
  refine ConW.intro ?_
  k_fill
  intros
  rename_i hp hret
  (try dsimp only at hret)
  (try dsimp only at hp)
  obtain ⟨p1, p2⟩ := hp
  k_with_none
  k_dflt (refine' call_cls ?k1 ?k2 ?k3 ?k4 ?k5 ?k6 ?_; (case k1 => k_asm); (case k2 => k_asm); (case k3 => k_asm); (case k4 => k_is); (case k5 => k_is); (case k6 => k_is); k_whole; intro x' d' h' F' N' l1 l2; (try k_lt l1); (try k_lt2 l2); (try k_sweep); cell_enter)
  w_strict (repeat' (first | (k_unfold; (try dsimp only)) | (with_reducible (k_here; (with_reducible show wpAny _ _ (call (Value.type _) [Value.ref _]) _ _ _); k_dflt (refine' my_tupleOf ?k1 ?k2 ?k3 ?k4 ?_; (case k1 => k_asm); (case k2 => k_asm); (case k3 => exact News.isList (by k_asm) (by k_mem)); (case k4 => ((have q9 := IntsAre.length (by assumption)); omega)); k_whole); intro Dqi hqi Fqi Nqi l1qi; (try k_lt l1qi); (try k_sweep))) | (with_reducible (k_here; (with_reducible show wpAny _ _ (storeName _ _ _) _ _ _); k_dflt ((first | refine' stI ?F ?N ?_ ?a ?b | refine' stS ?F ?N ?_ ?a ?b | refine' stA ?F ?N ?_ ?a ?b); (case F => k_asm); (case N => k_asm); (case a => exact Eq.refl ScopeKind.function); (case b => exact Eq.refl (some NameKind.local)); k_whole; intro hqi tqi uqi Fqi Nqi; (try k_sweep)))) | (with_reducible (k_here; (with_reducible show wpAny _ _ (eval (Expr.Name _ _) _) _ _ _); k_dflt (refine' nameX_L ?F ?v ?_ ?a ?b ?d; (case F => k_asm); (case a => exact Eq.refl ScopeKind.function); (case b => exact Eq.refl (some NameKind.local)); (case d => exact Eq.refl false); (case v => exact Eq.refl (some _)); k_whole))) | (k_end; wrow_close) | walk1 | (dsimp only; walk1) | (leave1; walk_say "STEP leave1"; try dsimp only)))
  with_reducible rename News _ _ _ _ => kN
  with_reducible rename Fr _ _ _ _ => kF
  k_dflt (refine' ws_loop kF kN rfl p2 ?lt rfl rfl rfl rfl ?turn ?done)
  case lt => ((try simp only [AllLt, and_true]); assumption)
  case done =>
    intro l vs ns e b tb n tn nt tt u h tk hns hr hlt b1 b2 b7 F N
    (try simp only [AllLt, and_true] at hlt)
    w_strict (repeat' (first | (k_unfold; (try dsimp only)) | (with_reducible (k_here; (with_reducible show wpAny _ _ (call (Value.type _) [Value.ref _]) _ _ _); k_dflt (refine' my_tupleOf ?k1 ?k2 ?k3 ?k4 ?_; (case k1 => k_asm); (case k2 => k_asm); (case k3 => exact News.isList (by k_asm) (by k_mem)); (case k4 => ((have q9 := IntsAre.length (by assumption)); omega)); k_whole); intro Dqi hqi Fqi Nqi l1qi; (try k_lt l1qi); (try k_sweep))) | (with_reducible (k_here; (with_reducible show wpAny _ _ (storeName _ _ _) _ _ _); k_dflt ((first | refine' stI ?F ?N ?_ ?a ?b | refine' stS ?F ?N ?_ ?a ?b | refine' stA ?F ?N ?_ ?a ?b); (case F => k_asm); (case N => k_asm); (case a => exact Eq.refl ScopeKind.function); (case b => exact Eq.refl (some NameKind.local)); k_whole; intro hqi tqi uqi Fqi Nqi; (try k_sweep)))) | (with_reducible (k_here; (with_reducible show wpAny _ _ (eval (Expr.Name _ _) _) _ _ _); k_dflt (refine' nameX_L ?F ?v ?_ ?a ?b ?d; (case F => k_asm); (case a => exact Eq.refl ScopeKind.function); (case b => exact Eq.refl (some NameKind.local)); (case d => exact Eq.refl false); (case v => exact Eq.refl (some _)); k_whole))) | (k_end; wrow_close) | walk1 | (dsimp only; walk1) | (leave1; walk_say "STEP leave1"; try dsimp only)))
    have e : wsRun x x.length = (b, n, nt, ns) := hr
    dsimp only [wsObjs, wsEntry] at hret
    simp only [e] at hret
    refine' hret _ _ _ _ _ _ _ _ _ _ _ _ _ _ _ _ ?myA ?myF ?myN ?myL ?my1 ?my2 ?my3
    case myA => exact hns
    case myF => k_asm
    case myN => (refine' cb_drop (by assumption) ?myD; dsimp only [List.cons_append, List.nil_append]; refine List.forall_mem_cons.mpr ⟨?_, List.forall_mem_cons.mpr ⟨?_, List.forall_mem_cons.mpr ⟨?_, List.forall_mem_cons.mpr ⟨?_, ?_⟩⟩⟩⟩; k_mem; k_mem; k_mem; k_mem; (intro p9 h9; repeat (first | exact h9 | refine List.Mem.tail _ ?_)))
    case myL => exact allLt_of l1
    case my1 => assumption
    case my2 => omega
    case my3 => omega
  case turn =>
    intro l vs ns e b tb n tn nt tt i ch t u h tk I oI hi hch hat hns hr b1 b2 b3 b4 b5 b6 b7 hlt hlI hrI F N
    (try simp only [AllLt, and_true] at hlt)
    have hltA : AllLt _ _ := hlt.2.2.2
    rcases hch with rfl | rfl
    · w_strict (repeat' (first | (k_unfold; (try dsimp only)) | (with_reducible (k_here; (with_reducible show wpAny _ _ (call (Value.type _) [Value.ref _]) _ _ _); k_dflt (refine' my_tupleOf ?k1 ?k2 ?k3 ?k4 ?_; (case k1 => k_asm); (case k2 => k_asm); (case k3 => exact News.isList (by k_asm) (by k_mem)); (case k4 => ((have q9 := IntsAre.length (by assumption)); omega)); k_whole); intro Dqi hqi Fqi Nqi l1qi; (try k_lt l1qi); (try k_sweep))) | (with_reducible (k_here; (with_reducible show wpAny _ _ (storeName _ _ _) _ _ _); k_dflt ((first | refine' stI ?F ?N ?_ ?a ?b | refine' stS ?F ?N ?_ ?a ?b | refine' stA ?F ?N ?_ ?a ?b); (case F => k_asm); (case N => k_asm); (case a => exact Eq.refl ScopeKind.function); (case b => exact Eq.refl (some NameKind.local)); k_whole; intro hqi tqi uqi Fqi Nqi; (try k_sweep)))) | (with_reducible (k_here; (with_reducible show wpAny _ _ (eval (Expr.Name _ _) _) _ _ _); k_dflt (refine' nameX_L ?F ?v ?_ ?a ?b ?d; (case F => k_asm); (case a => exact Eq.refl ScopeKind.function); (case b => exact Eq.refl (some NameKind.local)); (case d => exact Eq.refl false); (case v => exact Eq.refl (some _)); k_whole))) | (k_end; wrow_close) | walk1 | (dsimp only; walk1) | (leave1; walk_say "STEP leave1"; try dsimp only)))
      all_goals (
        dsimp only [WsPost, TxPost]
        (with_reducible rename News _ _ _ _ => kN)
        (with_reducible rename Fr _ _ _ _ => kF)
        (with_unfolding_all refine' TxEnd.mk' ⟨_, _, _, _, _, _, _, _, _⟩ kF kN ?mxI ?mxL ?mxN ?mxK ?mxR ?mxP)
        (case mxK => kst_all)
        (case mxI => k_mem)
        (case mxL => kst_in)
        (case mxN => (refine List.forall_mem_cons.mpr ⟨?_, hrI⟩; first | exact hlI | k_ne))
        (case mxR => (intro z h1 h2 h3; (try simp only [List.forall_mem_cons, List.not_mem_nil, false_implies, implies_true, and_true, ne_eq] at h2); (repeat (first | with_reducible exact rfl | ((first | refine upI_ne ?hne ?_ | refine upS_ne ?hne ?_ | refine upA_ne ?hne ?_ | refine ite_ne ?hne ?_); (case hne => first | with_reducible exact h1 | with_reducible exact h2 | with_reducible exact h2.1 | with_reducible exact h2.2.1 | with_reducible exact h2.2.2.1 | with_reducible exact h2.2.2.2.1 | with_reducible exact h2.2.2.2.2.1 | with_reducible exact h2.2.2.2.2.2.1 | with_reducible exact h2.2.2.2.2.2.2.1 | with_reducible exact h2.2.2.2.2.2.2.2.1 | with_reducible exact h2.2 | with_reducible exact h2.2.2 | with_reducible exact h2.2.2.2 | with_reducible exact h2.2.2.2.2 | with_reducible exact h2.2.2.2.2.2 | with_reducible exact h2.2.2.2.2.2.2 | with_reducible exact h2.2.2.2.2.2.2.2 | with_reducible exact h2.2.2.2.2.2.2.2.2 | exact ctn_ne h3 (by decide +kernel))) | refine ite_ctn h3 ?_ | refine ite_ctn (ctn_sub h3 (by decide +kernel)) ?_)); done))
        (case mxP => (refine ⟨_, (by assumption), ?_, (by (try dsimp only); (simp only [AllLt, and_true]); first | assumption | (refine ⟨by omega, by omega, by omega, ?_⟩; first | assumption | exact (by assumption : _ ∧ _ ∧ _ ∧ AllLt _ _).2.2.2 | exact (by assumption: _ ∧ _ ∧ _ ∧ _ ∧ _ ∧ _ ∧ _ ∧ AllLt _ _).2.2.2.2.2.2.2))⟩; rw [wsRun_succ hat, hr]; rfl)))
    · w_strict (repeat' (first | (k_unfold; (try dsimp only)) | (with_reducible (k_here; (with_reducible show wpAny _ _ (call (Value.type _) [Value.ref _]) _ _ _); k_dflt (refine' my_tupleOf ?k1 ?k2 ?k3 ?k4 ?_; (case k1 => k_asm); (case k2 => k_asm); (case k3 => exact News.isList (by k_asm) (by k_mem)); (case k4 => ((have q9 := IntsAre.length (by assumption)); omega)); k_whole); intro Dqi hqi Fqi Nqi l1qi; (try k_lt l1qi); (try k_sweep))) | (with_reducible (k_here; (with_reducible show wpAny _ _ (storeName _ _ _) _ _ _); k_dflt ((first | refine' stI ?F ?N ?_ ?a ?b | refine' stS ?F ?N ?_ ?a ?b | refine' stA ?F ?N ?_ ?a ?b); (case F => k_asm); (case N => k_asm); (case a => exact Eq.refl ScopeKind.function); (case b => exact Eq.refl (some NameKind.local)); k_whole; intro hqi tqi uqi Fqi Nqi; (try k_sweep)))) | (with_reducible (k_here; (with_reducible show wpAny _ _ (eval (Expr.Name _ _) _) _ _ _); k_dflt (refine' nameX_L ?F ?v ?_ ?a ?b ?d; (case F => k_asm); (case a => exact Eq.refl ScopeKind.function); (case b => exact Eq.refl (some NameKind.local)); (case d => exact Eq.refl false); (case v => exact Eq.refl (some _)); k_whole))) | (k_end; wrow_close) | walk1 | (dsimp only; walk1) | (leave1; walk_say "STEP leave1"; try dsimp only)))
      all_goals (
        dsimp only [WsPost, TxPost]
        (with_reducible rename News _ _ _ _ => kN)
        (with_reducible rename Fr _ _ _ _ => kF)
        (with_unfolding_all refine' TxEnd.mk' ⟨_, _, _, _, _, _, _, _, _⟩ kF kN ?mxI ?mxL ?mxN ?mxK ?mxR ?mxP)
        (case mxK => kst_all)
        (case mxI => k_mem)
        (case mxL => kst_in)
        (case mxN => (refine List.forall_mem_cons.mpr ⟨?_, hrI⟩; first | exact hlI | k_ne))
        (case mxR => (intro z h1 h2 h3; (try simp only [List.forall_mem_cons, List.not_mem_nil, false_implies, implies_true, and_true, ne_eq] at h2); (repeat (first | with_reducible exact rfl | ((first | refine upI_ne ?hne ?_ | refine upS_ne ?hne ?_ | refine upA_ne ?hne ?_ | refine ite_ne ?hne ?_); (case hne => first | with_reducible exact h1 | with_reducible exact h2 | with_reducible exact h2.1 | with_reducible exact h2.2.1 | with_reducible exact h2.2.2.1 | with_reducible exact h2.2.2.2.1 | with_reducible exact h2.2.2.2.2.1 | with_reducible exact h2.2.2.2.2.2.1 | with_reducible exact h2.2.2.2.2.2.2.1 | with_reducible exact h2.2.2.2.2.2.2.2.1 | with_reducible exact h2.2 | with_reducible exact h2.2.2 | with_reducible exact h2.2.2.2 | with_reducible exact h2.2.2.2.2 | with_reducible exact h2.2.2.2.2.2 | with_reducible exact h2.2.2.2.2.2.2 | with_reducible exact h2.2.2.2.2.2.2.2 | with_reducible exact h2.2.2.2.2.2.2.2.2 | exact ctn_ne h3 (by decide +kernel))) | refine ite_ctn h3 ?_ | refine ite_ctn (ctn_sub h3 (by decide +kernel)) ?_)); done))
        (case mxP => (refine ⟨_, (by assumption), ?_, (by (try dsimp only); (simp only [AllLt, and_true]); first | assumption | (refine ⟨by omega, by omega, by omega, ?_⟩; first | assumption | exact (by assumption : _ ∧ _ ∧ _ ∧ AllLt _ _).2.2.2 | exact (by assumption: _ ∧ _ ∧ _ ∧ _ ∧ _ ∧ _ ∧ _ ∧ AllLt _ _).2.2.2.2.2.2.2))⟩; rw [wsRun_succ hat, hr]; first | exact ws_tab (bump_ge (by omega)) | exact ws_tab (bump_lt (by omega)))))
end
section
open PySem PySem.W PyProof.Rows
set_option Elab.async false
set_option maxRecDepth 100000
set_option maxHeartbeats 8000000
noncomputable def keyF (x : Str) : Int := if (wsRun x x.length).2.2.2.length ≤ 1 then 0 else 1

theorem key_c {w : World} {loose : List Str} {mean : ExcName → Option Value} {mg mb : Str → Option Value} (x : Str) (t : Tok) :
    ConS w loose mean mg mb 173 870 7700 (fun news => x.length ≤ 10 ∧ Blank x) [.str x t] [] (fun tk => .int (keyF x) tk) True := by
  refine ConS.intro ?_
  k_fill
  intros
  rename_i hp hret
  (try dsimp only at hret)
  (try dsimp only at hp)
  refine wpAny_call ?_
  k_dflt cell_enter
  k_with_none
  w_strict (repeat' (first | (k_unfold; (try dsimp only)) | (with_reducible (k_here; (with_reducible show wpAny _ _ (call (Value.ref 134) [Value.str _ _]) _ _ _); k_dflt ( refine' (make_c _ _).use ?k1 ?k2 ?k3 ?k4 ?k5 ?kK ?kp ?kd ?ku ?_; (case k1 => k_asm); (case k2 => k_asm); (case k3 => k_asm); (case k4 => k_asm); (case k5 => k_asm); (case kK => first | exact rfl | assumption); (case kp => first | assumption | exact ⟨by assumption, by assumption⟩); (case kd => exact Nat.le_of_ble_eq_true rfl); (case ku => exact Nat.le_of_ble_eq_true rfl); intro xiqi dxqi tcqi tnqi vsqi tbqi t1qi t2qi t3qi k1 k2 k3 k4 k5 h9qi tk9qi hvsqi F9qi N9qi l1qi l2qi l3qi l4qi; (try simp only [AllLt, and_true] at l1qi); (dsimp only [wsObjs, List.cons_append, List.nil_append] at N9qi); (try dsimp only); (try k_fold)))) | (with_reducible (k_here; (with_reducible show wpAny _ _ (storeName _ _ _) _ _ _); k_dflt ((first | refine' stI ?F ?N ?_ ?a ?b | refine' stS ?F ?N ?_ ?a ?b | refine' stA ?F ?N ?_ ?a ?b); (case F => k_asm); (case N => k_asm); (case a => exact Eq.refl ScopeKind.function); (case b => exact Eq.refl (some NameKind.local)); k_whole; intro hqi tqi uqi Fqi Nqi; (try k_sweep)))) | (with_reducible (k_here; (with_reducible show wpAny _ _ (eval (Expr.Name _ _) _) _ _ _); k_dflt (refine' nameX_L ?F ?v ?_ ?a ?b ?d; (case F => k_asm); (case a => exact Eq.refl ScopeKind.function); (case b => exact Eq.refl (some NameKind.local)); (case d => exact Eq.refl false); (case v => exact Eq.refl (some _)); k_whole))) | (k_end; wrow_close) | walk1 | (dsimp only; walk1) | (leave1; walk_say "STEP leave1"; try dsimp only)))
  refine cb_retI (fun t h' tk' => hret t h' tk' trivial) ?_ (by k_asm) (by first | k_asm | (refine' cb_drop ?cbN ?cbS; (case cbN => assumption); (case cbS => kcj_all)))
  unfold keyF
  rcases Nat.lt_or_ge 1 (wsRun x x.length).2.2.2.length with q | q
  · simp [show ¬ (((wsRun x x.length).2.2.2.length : Int) ≤ 1) by omega, show ¬ ((wsRun x x.length).2.2.2.length ≤ 1) by omega]
  · simp [show (((wsRun x x.length).2.2.2.length : Int) ≤ 1) by omega, show ((wsRun x x.length).2.2.2.length ≤ 1) by omega]
end
section
local macro_rules | `(tactic| omega) => `(tactic| first | lia | omega (config := {}))
section
open PySem PySem.W PyProof.Rows PyProof.V PySem.Spec PySem.Calls
set_option Elab.async false
set_option maxRecDepth 100000
set_option maxHeartbeats 8000000
inductive Each (V : Nat → Value → Prop) : List Nat → List Value → Prop
  | nil : Each V [] []
  | cons {c y cs ys} : V c y → Each V cs ys → Each V (c :: cs) (y :: ys)
theorem Each.snoc {V : Nat → Value → Prop} : ∀ {cs : List Nat} {ys : List Value} {c : Nat} {y : Value}, Each V cs ys → V c y → Each V (cs ++ [c]) (ys ++ [y])
  | _, _, _, _, .nil, h => .cons h .nil
  | _, _, _, _, .cons a r, h => .cons a (r.snoc h)
theorem Each.ints {V : Nat → Value → Prop} {g : Nat → Int} (hV : ∀ c y, V c y → ∃ t, y = .int (g c) t) : ∀ {cs : List Nat} {ys : List Value}, Each V cs ys → IntsAre ys (cs.map g)
  | _, _, .nil => .nil
  | _, _, .cons a r => by
    obtain ⟨t, rfl⟩ := hV _ _ a
    exact .cons _ _ (r.ints hV)
theorem Each.strs {V : Nat → Value → Prop} {g : Nat → Str} (hV : ∀ c y, V c y → ∃ t, y = .str (g c) t) : ∀ {cs : List Nat} {ys : List Value}, Each V cs ys → StrsAre ys (cs.map g)
  | _, _, .nil => .nil
  | _, _, .cons a r => by
    obtain ⟨t, rfl⟩ := hV _ _ a
    exact .cons _ _ (r.strs hV)
section
variable {prog : Program} {w : World} {A : Around} {E : Value → Shared → Prop} {s : Shared} {h₀ : Heap} {L : Addr} {m : Str → Option Value} {env : Env}
theorem kcs_rest {elt : Expr} {x : Str} {scope : Scope} {cl : List (Str × Addr)} {Fin : List Value → List (Addr × Obj) → Prop} {news : List (Addr × Obj)} {xt : Str} (V : Nat → Value → Prop)
    (turn : ∀ c t I oI C oC D m₂ ys h tk (E' : Value → Shared → Prop), c ∈ xt.cps.toList → LCg.NsObj oC m₂ → m₂ x = some (.str ⟨#[c]⟩ t) → Fr h₀ L h m → News h₀ L h ((I, oI) :: (C, oC) :: (D, LCg.lst ys) :: news) → LCg.Off3 I C D news → ((@Ne Nat I C) ∧ (@Ne Nat I D) ∧ (@Ne Nat C D)) →
      wpAny (model prog w) A (eval elt (compEnvC scope cl C env)) (LCg.CompEnd h₀ L m { s with heap := h, toks := tk } I oI C oC D (LCg.lst ys) (fun _ => True) (fun y news' => news' = news ∧ V c y)) E' { s with heap := h, toks := tk })
    (fin : ∀ ys, Each V xt.cps.toList ys → Fin ys news) : LCg.CompRest prog w A h₀ L m env elt x scope cl s (fun _ => True) (SignAt xt) Fin xt.cps.size 0 [] news := by
  have key : ∀ (j i : Nat) (ys : List Value), i + j = xt.cps.size → Each V (xt.cps.toList.take i) ys → LCg.CompRest prog w A h₀ L m env elt x scope cl s (fun _ => True) (SignAt xt) Fin j i ys news := by
    intro j
    induction j with
    | zero =>
      intro i ys hi hy
      rw [List.take_of_length_le (by rw [Array.length_toList]; omega)] at hy
      exact LCg.CompRest.zero (fin ys hy)
    | succ j ih =>
      intro i ys hi hy
      refine LCg.CompRest.succ ?_
      intro v I oI C oC D m₂ h tk E' hv hC hx F N off ne
      obtain ⟨c, t, hc, rfl⟩ := hv
      have hc' : xt.cps.toList[i]? = some c := by simpa using hc
      refine wpAny_mono (turn c t I oI C oC D m₂ ys h tk E' (List.mem_of_getElem? hc') hC hx F N off ne) (fun y s₂ hq => ?_) fun _ _ e => e
      obtain ⟨h', tk', nw, e, F', N', off', hS, rfl, hV⟩ := hq
      refine ⟨h', tk', nw, e, F', N', off', hS, ?_⟩
      refine ih (i + 1) _ (by omega) ?_
      rw [List.take_add_one, hc']
      simpa using hy.snoc hV
  exact key _ 0 [] (by omega) .nil

theorem comp_str {elt iter : Expr} {x : Str} {px : Pos} {scope : Scope} {cl : List (Str × Addr)} {pos : Pos} {Q : Value → Shared → Prop}
    (hclos : closureFor scope env = pure cl) (hcell : ∀ y ∈ scope.names, y.2 ≠ .cell) (hkind : scope.kind = .function)
    (hnames : ∀ y ∈ scope.names, y.2 = .local → scope.names.lookup y.1 = some .local) (hx : scope.names.lookup x = some .local)
    (h : wpAny (model prog w) A (eval iter env) (fun xv s₁ => ∃ (xt : Str) (tx : Tok) (news : List (Addr × Obj)), xv = .str xt tx ∧ A.handled = none ∧ Fr h₀ L s₁.heap m ∧ News h₀ L s₁.heap news ∧ xt.cps.size ≤ sizeLine ∧
      ∀ g, LCg.CompRest prog w A h₀ L m env elt x scope cl { s₁ with heap := g } (fun _ => True) (SignAt xt) (LCg.FinE h₀ L m { s₁ with heap := g } Q) xt.cps.size 0 [] news) E s)
    (hs : ∀ x, foldedSetIterable iter env x = pure x := by intro _; rfl) :
    wpAny (model prog w) A (eval (.ListComp elt [⟨.Name x px, iter, [], 0⟩] scope pos) env) Q E s := by
  rw [eval_ListComp]
  refine wpAny_comprehension_free (use := none) rfl hs hclos hkind hnames (wpAny_mono h (fun xv s₁ h₁ => ?_) fun _ _ e => e)
  obtain ⟨xt, tx, news, rfl, hh, F, N, hsz, R⟩ := h₁
  have fin : ∀ (g : Heap), ∀ D C h tk m' ys news', Fr h₀ L h m → News h₀ L h ((D, LCg.lst ys) :: news') → LCg.Off1 D news' → h.Ns C m' → h₀.get? C = none → h₀.get? D = none → C ≠ L → D ≠ L → C ≠ D → (∀ p ∈ news', p.1 ≠ C) → LCg.FinE h₀ L m { s₁ with heap := g } Q ys news' →
      ∃ m', h.Ns C m' ∧ ∀ h'', Heap.SameBut C h h'' → Q (.ref D) { s₁ with heap := h'', toks := tk } := by
    intro g D C h tk m' ys news' F' N' o1 hn hC₀ hD₀ hCL hDL hCD offC fin
    refine ⟨m', hn, fun h'' hs'' => fin D h'' tk (F'.change hs'' hCL hC₀) (fun p hp => ?_) o1⟩
    refine ⟨hs''.extBut _ _ ?_ (N' p hp).1, (N' p hp).2⟩
    rcases List.mem_cons.mp hp with rfl | hp
    · exact Ne.symm hCD
    · exact offC p hp
  cases ha : xt.cps.all (· < 128)
  · refine wpAny_pyIter_wide ha ?_
    refine LCg.block_U (Walks.strWide hh s₁.heap.objs.size xt tx) hsz (fun i h st => ⟨_, st.choose_spec.1⟩) ?_ hcell hkind hx ⟨_, Heap.get?_push_size _ rfl, rfl, rfl⟩ (fun b hb => ?_)
      (F.keeps fun _ _ e => Heap.get?_push_of_some _ e) (N.grown fun _ _ e => Heap.get?_push_of_some _ e) (Nat.ne_of_lt F.ns.lt) (next_is_new F) (fun p hp => Nat.ne_of_lt (Heap.lt_size (N p hp).1)) trivial (R _) ?_
    · intro i h h' o nw st e e' _ _ _
      obtain ⟨o', q, r⟩ := st
      rw [e] at q; cases q; exact ⟨o, e', r⟩
    · rw [List.mem_singleton.mp hb]
      show s₁.heap.objs.size < (s₁.heap.push _).objs.size
      rw [Heap.size_push]; exact Nat.lt_succ_self _
    · intro D C h tk m' ys news' F' N' o1 hn hC₀ hD₀ hCL hDL hCD offC fn
      exact fin _ D C h tk m' ys news' F' N' o1 hn hC₀ hD₀ hCL hDL hCD offC fn
  · refine wpAny_pyIter_ascii ha ?_
    refine LCg.block_U (Walks.strAscii hh s₁.heap.objs.size xt tx) hsz (fun i h st => ⟨_, st.choose_spec.1⟩) ?_ hcell hkind hx ⟨_, Heap.get?_push_size _ rfl, rfl, rfl⟩ (fun b hb => ?_)
      (F.keeps fun _ _ e => Heap.get?_push_of_some _ e) (N.grown fun _ _ e => Heap.get?_push_of_some _ e) (Nat.ne_of_lt F.ns.lt) (next_is_new F) (fun p hp => Nat.ne_of_lt (Heap.lt_size (N p hp).1)) trivial (R _) ?_
    · intro i h h' o nw st e e' _ _ _
      obtain ⟨o', q, r⟩ := st
      rw [e] at q; cases q; exact ⟨o, e', r⟩
    · rw [List.mem_singleton.mp hb]
      show s₁.heap.objs.size < (s₁.heap.push _).objs.size
      rw [Heap.size_push]; exact Nat.lt_succ_self _
    · intro D C h tk m' ys news' F' N' o1 hn hC₀ hD₀ hCL hDL hCD offC fn
      exact fin _ D C h tk m' ys news' F' N' o1 hn hC₀ hD₀ hCL hDL hCD offC fn
end
end
end
section
open PySem PySem.W PyProof.Rows
set_option Elab.async false
set_option maxRecDepth 100000
set_option maxHeartbeats 8000000
noncomputable def bitF (c : Nat) : Int := if ((⟨#[c]⟩ : Str) == Str.ofString "\t") = true then 1 else 0
theorem bits_c {w : World} {loose : List Str} {mean : ExcName → Option Value} {mg mb : Str → Option Value} (x : Str) (t : Tok) :
    ConO w loose mean mg mb 178 870 7700 (fun news => x.length ≤ 10 ∧ Blank x) [.str x t] [] (fun o => ∃ vs n, o = listOf vs.toArray n ∧ IntsAre vs (x.cps.toList.map bitF)) := by
  refine ConO.intro ?_
  k_fill
  intros
  rename_i hp hret
  (try dsimp only at hret)
  (try dsimp only at hp)
  obtain ⟨p1, p2⟩ := hp
  refine wpAny_call ?_
  k_dflt cell_enter
  k_with_none
  iterate 3 (first | walk1 | (dsimp only; walk1))
  with_reducible rename News _ _ _ _ => kN
  with_reducible rename Fr _ _ _ _ => kF
  k_dflt (refine' comp_str (cl := []) ?c1 ?c2 ?c3 ?c4 ?c5 ?c6 ?c7)
  case c1 => rfl
  case c2 => decide
  case c3 => rfl
  case c4 => decide
  case c5 => rfl
  case c7 => intro _; rfl
  case c6 =>
    walk1
    refine ⟨_, _, _, rfl, rfl, kF, kN, ?_, fun g => ?_⟩
    · have q : x.cps.size = x.length := rfl
      rw [sizeLine_eq]; omega
    refine kcs_rest (fun c y => ∃ t, y = .int (bitF c) t) ?_ ?_
    · intro c t I oI C oC D m₂ ys h tk E' hc hC hx F N off ne
      w_strict (repeat' (first | (k_unfold; (try dsimp only)) | (with_reducible (k_here; (with_reducible show wpAny _ _ (storeName _ _ _) _ _ _); k_dflt ((first | refine' stI ?F ?N ?_ ?a ?b | refine' stS ?F ?N ?_ ?a ?b | refine' stA ?F ?N ?_ ?a ?b); (case F => k_asm); (case N => k_asm); (case a => exact Eq.refl ScopeKind.function); (case b => exact Eq.refl (some NameKind.local)); k_whole; intro hqi tqi uqi Fqi Nqi; (try k_sweep)))) | (with_reducible (k_here; (with_reducible show wpAny _ _ (eval (Expr.Name _ _) _) _ _ _); k_dflt (refine' nameX_L ?F ?v ?_ ?a ?b ?d; (case F => k_asm); (case a => exact Eq.refl ScopeKind.function); (case b => exact Eq.refl (some NameKind.local)); (case d => exact Eq.refl false); (case v => exact Eq.refl (some _)); k_whole))) | (k_end; wrow_close) | walk1 | (dsimp only; walk1) | (leave1; walk_say "STEP leave1"; try dsimp only)))
      exact LCg.CompEnd.intro F N _ (fun p hp => hp) off trivial ⟨rfl, _, rfl⟩
    · intro ys hys D h tk F N off
      w_strict (repeat' (first | (k_unfold; (try dsimp only)) | (with_reducible (k_here; (with_reducible show wpAny _ _ (storeName _ _ _) _ _ _); k_dflt ((first | refine' stI ?F ?N ?_ ?a ?b | refine' stS ?F ?N ?_ ?a ?b | refine' stA ?F ?N ?_ ?a ?b); (case F => k_asm); (case N => k_asm); (case a => exact Eq.refl ScopeKind.function); (case b => exact Eq.refl (some NameKind.local)); k_whole; intro hqi tqi uqi Fqi Nqi; (try k_sweep)))) | (with_reducible (k_here; (with_reducible show wpAny _ _ (eval (Expr.Name _ _) _) _ _ _); k_dflt (refine' nameX_L ?F ?v ?_ ?a ?b ?d; (case F => k_asm); (case a => exact Eq.refl ScopeKind.function); (case b => exact Eq.refl (some NameKind.local)); (case d => exact Eq.refl false); (case v => exact Eq.refl (some _)); k_whole))) | (k_end; wrow_close) | walk1 | (dsimp only; walk1) | (leave1; walk_say "STEP leave1"; try dsimp only)))
      exact hret _ _ _ _ ⟨_, _, rfl, hys.ints (fun _ _ h => h)⟩ (by k_asm) (by k_asm) off
end
section
open PySem PySem.W PyProof.Rows
set_option Elab.async false
set_option maxRecDepth 100000
set_option maxHeartbeats 8000000
noncomputable def letF (c : Nat) : Str := if ((⟨#[c]⟩ : Str) == Str.ofString "\t") = true then Str.ofString "X" else Str.ofString "x"
theorem lets_one (c : Nat) : (letF c).length = 1 := by unfold letF; split <;> decide +kernel
theorem lets_len : ∀ l : List Nat, ((l.map letF).map (·.length)).sum = (l.map letF).length
  | [] => rfl
  | c :: r => by simp only [List.map_cons, List.sum_cons, List.length_cons, lets_one, lets_len r]; omega
noncomputable def lettersF (x : Str) : Str := Txt.join (Str.ofString "") (x.cps.toList.map letF)
theorem letters_c {w : World} {loose : List Str} {mean : ExcName → Option Value} {mg mb : Str → Option Value} (x : Str) (t : Tok) :
    ConS w loose mean mg mb 183 870 7700 (fun news => x.length ≤ 10 ∧ Blank x) [.str x t] [] (fun tk => .str (lettersF x) tk) True := by
  refine ConS.intro ?_
  k_fill
  intros
  rename_i hp hret
  (try dsimp only at hret)
  (try dsimp only at hp)
  obtain ⟨p1, p2⟩ := hp
  refine wpAny_call ?_
  k_dflt cell_enter
  k_with_none
  iterate 8 (first | walk1 | (dsimp only; walk1))
  with_reducible rename News _ _ _ _ => kN
  with_reducible rename Fr _ _ _ _ => kF
  k_dflt (refine' comp_str (cl := []) ?c1 ?c2 ?c3 ?c4 ?c5 ?c6 ?c7)
  case c1 => rfl
  case c2 => decide
  case c3 => rfl
  case c4 => decide
  case c5 => rfl
  case c7 => intro _; rfl
  case c6 =>
    walk1
    refine ⟨_, _, _, rfl, rfl, kF, kN, ?_, fun g => ?_⟩
    · have q : x.cps.size = x.length := rfl
      rw [sizeLine_eq]; omega
    refine kcs_rest (fun c y => ∃ t, y = .str (letF c) t) ?_ ?_
    · intro c t I oI C oC D m₂ ys h tk E' hc hC hx F N off ne
      w_strict (repeat' (first | (k_unfold; (try dsimp only)) | (with_reducible (k_here; (with_reducible show wpAny _ _ (storeName _ _ _) _ _ _); k_dflt ((first | refine' stI ?F ?N ?_ ?a ?b | refine' stS ?F ?N ?_ ?a ?b | refine' stA ?F ?N ?_ ?a ?b); (case F => k_asm); (case N => k_asm); (case a => exact Eq.refl ScopeKind.function); (case b => exact Eq.refl (some NameKind.local)); k_whole; intro hqi tqi uqi Fqi Nqi; (try k_sweep)))) | (with_reducible (k_here; (with_reducible show wpAny _ _ (eval (Expr.Name _ _) _) _ _ _); k_dflt (refine' nameX_L ?F ?v ?_ ?a ?b ?d; (case F => k_asm); (case a => exact Eq.refl ScopeKind.function); (case b => exact Eq.refl (some NameKind.local)); (case d => exact Eq.refl false); (case v => exact Eq.refl (some _)); k_whole))) | (k_end; wrow_close) | walk1 | (dsimp only; walk1) | (leave1; walk_say "STEP leave1"; try dsimp only)))
      all_goals (refine' LCg.CompEnd.intro F N _ (fun p hp => hp) off trivial ⟨rfl, _, ?hl⟩; (case hl => unfold letF; first | rw [if_pos (by assumption)] | rw [if_neg (ne_true_of_eq_false (by assumption))]))
    · intro ys hys D h tk F N off
      have hS := hys.strs (fun _ _ h => h)
      have hlen : (x.cps.toList.map letF).length ≤ 10 := by
        rw [List.length_map, Array.length_toList]; exact p1

      w_strict (repeat' (first | (k_unfold; (try dsimp only)) | (with_reducible (k_here; (with_reducible show wpAny _ _ (storeName _ _ _) _ _ _); k_dflt ((first | refine' stI ?F ?N ?_ ?a ?b | refine' stS ?F ?N ?_ ?a ?b | refine' stA ?F ?N ?_ ?a ?b); (case F => k_asm); (case N => k_asm); (case a => exact Eq.refl ScopeKind.function); (case b => exact Eq.refl (some NameKind.local)); k_whole; intro hqi tqi uqi Fqi Nqi; (try k_sweep)))) | (with_reducible (k_here; (with_reducible show wpAny _ _ (eval (Expr.Name _ _) _) _ _ _); k_dflt (refine' nameX_L ?F ?v ?_ ?a ?b ?d; (case F => k_asm); (case a => exact Eq.refl ScopeKind.function); (case b => exact Eq.refl (some NameKind.local)); (case d => exact Eq.refl false); (case v => exact Eq.refl (some _)); k_whole))) | (k_end; wrow_close) | walk1 | (dsimp only; walk1) | (leave1; walk_say "STEP leave1"; try dsimp only)))
      refine join_list (News.isList N (List.Mem.head _)) (by simpa using hS) ?_ ?_
      · have q : ((x.cps.toList.map letF).map (·.length)).sum = (x.cps.toList.map letF).length := lets_len _
        rw [q, show (Str.ofString "").length = 0 from by decide +kernel]; omega
      intro t' k
      w_strict (repeat' (first | (k_unfold; (try dsimp only)) | (with_reducible (k_here; (with_reducible show wpAny _ _ (storeName _ _ _) _ _ _); k_dflt ((first | refine' stI ?F ?N ?_ ?a ?b | refine' stS ?F ?N ?_ ?a ?b | refine' stA ?F ?N ?_ ?a ?b); (case F => k_asm); (case N => k_asm); (case a => exact Eq.refl ScopeKind.function); (case b => exact Eq.refl (some NameKind.local)); k_whole; intro hqi tqi uqi Fqi Nqi; (try k_sweep)))) | (with_reducible (k_here; (with_reducible show wpAny _ _ (eval (Expr.Name _ _) _) _ _ _); k_dflt (refine' nameX_L ?F ?v ?_ ?a ?b ?d; (case F => k_asm); (case a => exact Eq.refl ScopeKind.function); (case b => exact Eq.refl (some NameKind.local)); (case d => exact Eq.refl false); (case v => exact Eq.refl (some _)); k_whole))) | (k_end; wrow_close) | walk1 | (dsimp only; walk1) | (leave1; walk_say "STEP leave1"; try dsimp only)))
      exact hret _ _ _ trivial (by k_asm) (by first | k_asm | (refine' cb_drop ?cbN ?cbS; (case cbN => assumption); (case cbS => kcj_all)))
end
section
open PySem PySem.W PyProof.Rows
set_option Elab.async false
set_option maxRecDepth 100000
set_option maxHeartbeats 8000000
theorem strs_get : ∀ {vs : List Value} {xs : List Str}, StrsAre vs xs → ∀ i, i < xs.length → ∃ t, vs[i]? = some (.str (xs.getD i (Str.ofString "")) t)
  | _, _, .nil, i, h => by simp at h
  | _, _, .cons x t r, 0, _ => ⟨t, rfl⟩
  | _, _, .cons x t r, i + 1, h => by
    obtain ⟨t', e⟩ := strs_get r i (by simpa using h)
    exact ⟨t', by simpa using e⟩
theorem strs_item {prog : Program} {w : World} {A : Around} {E : Value → Shared → Prop} {s : Shared} {value slice : PySem.Expr} {l : Addr} {vs : List Value} {xs : List Str} {k : Int} {u : Tok} {Q : Value → Shared → Prop}
    (hl : s.heap.IsList l vs.toArray) (hS : StrsAre vs xs) (h0 : 0 ≤ k) (hk : k < xs.length) (hx : xs.length ≤ 1000) (h : ∀ t, Q (.str (xs.getD k.toNat (Str.ofString "")) t) s)
    (hs : subscripted slice false (.ref l) (.int k u) = operate [.ref l, .int k u] (getItem (.ref l) (.int k u)) := by with_unfolding_all rfl) :
    wpAny (model prog w) A (subscriptTail value slice (.ref l) (.int k u)) Q E s := by
  obtain ⟨t, ht⟩ := strs_get hS k.toNat (by omega)
  exact tail_any hl.typeIs slot_list_getitem.lookup (wpAny_getItem_list hl h0 (by omega) (by simpa using ht) (h t)) hs
theorem fdiv2 (x : Int) : 2 * x.fdiv 2 ≤ x ∧ x < 2 * x.fdiv 2 + 2 := by
  have h1 := Int.fdiv_eq_ediv_of_nonneg x (show (0:Int) ≤ 2 by omega)
  omega
theorem fd_lo {a b : Int} (h : 0 ≤ a + b) : 0 ≤ (a + b).fdiv 2 := by have := fdiv2 (a + b); omega
theorem fd_hi {a b n : Int} (h : a < b) (h2 : b ≤ n) : (a + b).fdiv 2 < n := by have := fdiv2 (a + b); omega
theorem fd_nat {a b : Int} {n : Nat} (h0 : 0 ≤ a + b) (h : a < b) (h2 : b ≤ n) : ((a + b).fdiv 2).toNat < n := by have := fdiv2 (a + b); omega
theorem fd_bnd1 {a b : Int} (h : a < b) (h1 : 1 ≤ a) : 1 ≤ (a + b).fdiv 2 + 1 := by have := fdiv2 (a + b); omega
theorem fd_bnd2 {a b n : Int} (h : a < b) (h1 : b ≤ n) : (a + b).fdiv 2 ≤ n := by have := fdiv2 (a + b); omega
theorem fd_bnd3 {a b : Int} (h : a < b) (h1 : 1 ≤ a) : 0 ≤ (a + b).fdiv 2 := by have := fdiv2 (a + b); omega
theorem fd_less1 {a b : Int} (h : a < b) : (b - ((a + b).fdiv 2 + 1)).toNat < (b - a).toNat := by have := fdiv2 (a + b); omega
theorem fd_less2 {a b : Int} (h : a < b) : ((a + b).fdiv 2 - a).toNat < (b - a).toNat := by have := fdiv2 (a + b); omega
theorem xs_ok {xs : List Str} (h : ∀ x ∈ xs, x.length ≤ 10 ∧ Blank x) {i : Nat} (hi : i < xs.length) : (xs.getD i (Str.ofString "")).length ≤ 10 ∧ Blank (xs.getD i (Str.ofString "")) := by
  refine h _ ?_
  rw [List.getD_eq_getElem?_getD, List.getElem?_eq_getElem hi]
  exact List.getElem_mem hi
noncomputable def bisF (f : Nat → Int) : Nat → Int → Int → Int
  | 0, lo, _ => lo
  | n + 1, lo, hi => if lo < hi then (if f ((lo + hi).fdiv 2).toNat < 1 then bisF f n ((lo + hi).fdiv 2 + 1) hi else bisF f n lo ((lo + hi).fdiv 2)) else lo
local macro_rules | `(tactic| walk_at "exec While Compare cons nil") => `(tactic| (k_here; refine mark_of ?_))
noncomputable def BisInv (f : Nat → Int) (lo0 hi0 lo hi : Int) : Prop := ∃ n : Nat, bisF f n lo hi = bisF f 10 lo0 hi0 ∧ hi - lo ≤ n
theorem BisInv.start {f : Nat → Int} {lo hi : Int} (h : hi - lo ≤ 10) : BisInv f lo hi lo hi := ⟨10, rfl, h⟩
theorem BisInv.up {f : Nat → Int} {lo0 hi0 lo hi : Int} (h : BisInv f lo0 hi0 lo hi) (hl : lo < hi) (hf : f ((lo + hi).fdiv 2).toNat < 1) : BisInv f lo0 hi0 ((lo + hi).fdiv 2 + 1) hi := by
  obtain ⟨n, e, hn⟩ := h
  have := fdiv2 (lo + hi)
  cases n with
  | zero => omega
  | succ n => exact ⟨n, by rw [← e, bisF, if_pos hl, if_pos hf], by omega⟩
theorem BisInv.down {f : Nat → Int} {lo0 hi0 lo hi : Int} (h : BisInv f lo0 hi0 lo hi) (hl : lo < hi) (hf : ¬ f ((lo + hi).fdiv 2).toNat < 1) : BisInv f lo0 hi0 lo ((lo + hi).fdiv 2) := by
  obtain ⟨n, e, hn⟩ := h
  have := fdiv2 (lo + hi)
  cases n with
  | zero => omega
  | succ n => exact ⟨n, by rw [← e, bisF, if_pos hl, if_neg hf], by omega⟩
theorem BisInv.done {f : Nat → Int} {lo0 hi0 lo hi : Int} (h : BisInv f lo0 hi0 lo hi) (hl : ¬ lo < hi) : lo = bisF f 10 lo0 hi0 := by
  obtain ⟨n, e, hn⟩ := h
  rw [← e]
  cases n with
  | zero => rfl
  | succ n => rw [bisF, if_neg hl]
theorem bisl_c {w : World} {loose : List Str} {mean : ExcName → Option Value} {mg mb : Str → Option Value} (l : Addr) (vs : List Value) (xs : List Str) (e : Nat) (hi : Int) (t1 t2 t3 : Tok) :
    ConS w loose mean mg mb 30 860 7500 (fun news => (l, listOf vs.toArray e) ∈ news ∧ StrsAre vs xs ∧ (∀ x ∈ xs, x.length ≤ 10 ∧ Blank x) ∧ 0 ≤ hi ∧ hi ≤ xs.length ∧ xs.length ≤ 10) [.ref l, .int 1 t1, .int 1 t2, .int hi t3] [(Str.ofString "key", .ref 173)] (fun tk => .int (bisF (fun i => keyF (xs.getD i (Str.ofString ""))) 10 1 hi) tk) True := by
  refine ConS.intro ?_
  k_fill
  intros
  rename_i hp hret
  (try dsimp only at hret)
  (try dsimp only at hp)
  obtain ⟨p1, p2, p3, p4, p5, p6⟩ := hp
  refine wpAny_call ?_
  k_with_none
  k_dflt (refine' code_def ?k1 ?k2 ?k3 ?k4 ?k5 ?kA ?kF ?kK ?k6 ?k7 ?k8 ?k9 ?kB ?_ ?c2 ?c3 ?c4 ?c5; (case kA => exact rfl); (case kF => exact rfl); (case kK => assumption); (case k1 => k_asm); (case k2 => k_asm); (case k3 => k_asm); (case k4 => k_asm); (case k5 => k_asm); (case k6 => k_is); (case k7 => k_is); (case k8 => ktr_room); (case k9 => first | exact BindsTo.of_eq rfl | exact binds_K (by k_in) rfl (by k_is) rfl rfl rfl); (case c5 => decide); (case kB => exact locs rfl); (case c2 => exact rfl); (case c3 => exact rfl); (case c4 => exact rfl); k_whole; intro g' L' h' FG' F' N' B' X' T'; (try dsimp only); (try k_lift B'); (try k_fold))
  w_strict (repeat' (first | (k_unfold; (try dsimp only)) | (with_reducible (k_here; (with_reducible show wpAny _ _ (call (Value.ref 173) [Value.str _ _]) _ _ _); k_dflt ( refine' (key_c _ _).use ?k1 ?k2 ?k3 ?k4 ?k5 ?kK ?kp ?kd ?ku ?_; (case k1 => k_asm); (case k2 => k_asm); (case k3 => k_asm); (case k4 => k_asm); (case k5 => k_asm); (case kK => first | exact rfl | assumption); (case kp => exact xs_ok (by assumption) (fd_nat (by omega) (by assumption) (by assumption))); (case kd => exact Nat.le_of_ble_eq_true rfl); (case ku => exact Nat.le_of_ble_eq_true rfl); intro t9qi h9qi tk9qi g9qi F9qi N9qi; skip; (try dsimp only); (try k_fold)))) | (with_reducible (k_here; (with_reducible show wpAny _ _ (subscriptTail _ _ (Value.ref _) (Value.int _ _)) _ _ _); (with_unfolding_all refine' strs_item ?k1 ?k2 ?k3 ?k4 ?k5 ?_ ?k6; (case k1 => exact News.isList (by k_asm) (by first | assumption | k_mem)); (case k2 => assumption); (case k3 => first | omega | exact fd_lo (by omega)); (case k4 => first | omega | exact fd_hi (by omega) (by omega)); (case k5 => omega); (case k6 => with_unfolding_all rfl); k_whole); intro t9qi)) | (with_reducible (k_here; (with_reducible show wpAny _ _ (storeName _ _ _) _ _ _); k_dflt (refine' storeX_L ?F ?N ?_ ?a ?b; (case F => k_asm); (case N => k_asm); (case a => exact Eq.refl ScopeKind.function); (case b => exact Eq.refl (some NameKind.local)); k_whole; intro hqiqi Fqiqi Nqiqi; (try k_sweep)))) | (with_reducible (k_here; (with_reducible show wpAny _ _ (eval (Expr.Name _ _) _) _ _ _); k_dflt (refine' nameX_L ?F ?v ?_ ?a ?b ?d; (case F => k_asm); (case a => exact Eq.refl ScopeKind.function); (case b => exact Eq.refl (some NameKind.local)); (case d => exact Eq.refl false); (case v => exact Eq.refl (some _)); k_whole))) | (k_end; wrow_close) | walk1 | (dsimp only; walk1) | (leave1; walk_say "STEP leave1"; try dsimp only)))
  refine mark_in ?_
  (k_with "state" => (refine ⟨?_, ?_, ?_, ?_⟩ <;> first | omega | exact BisInv.start (by omega)))
  k_while_given ["lo!", "hi!"] (fun lo0 hi0 script lo hi => 1 ≤ lo ∧ hi ≤ xs.length ∧ 0 ≤ hi ∧ BisInv (fun i => keyF (xs.getD i (Str.ofString ""))) lo0 hi0 lo hi) (fun lo0 hi0 script lo hi => (hi - lo).toNat) "lo" "hi"
  (k_with "state" => (refine ⟨?_, ?_, ?_, ?_⟩ <;> first | omega | exact BisInv.up (by assumption) (by assumption) (by assumption) | exact BisInv.down (by assumption) (by assumption) (by omega) | exact fd_bnd1 (by assumption) (by omega) | exact fd_bnd2 (by assumption) (by omega) | exact fd_bnd3 (by assumption) (by omega) ))
  (k_with "measure" => first | exact fd_less1 (by assumption) | exact fd_less2 (by assumption))
  w_strict (repeat' (first | (k_unfold; (try dsimp only)) | (with_reducible (k_here; (with_reducible show wpAny _ _ (call (Value.ref 173) [Value.str _ _]) _ _ _); k_dflt ( refine' (key_c _ _).use ?k1 ?k2 ?k3 ?k4 ?k5 ?kK ?kp ?kd ?ku ?_; (case k1 => k_asm); (case k2 => k_asm); (case k3 => k_asm); (case k4 => k_asm); (case k5 => k_asm); (case kK => first | exact rfl | assumption); (case kp => exact xs_ok (by assumption) (fd_nat (by omega) (by assumption) (by assumption))); (case kd => exact Nat.le_of_ble_eq_true rfl); (case ku => exact Nat.le_of_ble_eq_true rfl); intro t9qi h9qi tk9qi g9qi F9qi N9qi; skip; (try dsimp only); (try k_fold)))) | (with_reducible (k_here; (with_reducible show wpAny _ _ (subscriptTail _ _ (Value.ref _) (Value.int _ _)) _ _ _); (with_unfolding_all refine' strs_item ?k1 ?k2 ?k3 ?k4 ?k5 ?_ ?k6; (case k1 => exact News.isList (by k_asm) (by first | assumption | k_mem)); (case k2 => assumption); (case k3 => first | omega | exact fd_lo (by omega)); (case k4 => first | omega | exact fd_hi (by omega) (by omega)); (case k5 => omega); (case k6 => with_unfolding_all rfl); k_whole); intro t9qi)) | (with_reducible (k_here; (with_reducible show wpAny _ _ (storeName _ _ _) _ _ _); k_dflt (refine' storeX_L ?F ?N ?_ ?a ?b; (case F => k_asm); (case N => k_asm); (case a => exact Eq.refl ScopeKind.function); (case b => exact Eq.refl (some NameKind.local)); k_whole; intro hqiqi Fqiqi Nqiqi; (try k_sweep)))) | (with_reducible (k_here; (with_reducible show wpAny _ _ (eval (Expr.Name _ _) _) _ _ _); k_dflt (refine' nameX_L ?F ?v ?_ ?a ?b ?d; (case F => k_asm); (case a => exact Eq.refl ScopeKind.function); (case b => exact Eq.refl (some NameKind.local)); (case d => exact Eq.refl false); (case v => exact Eq.refl (some _)); k_whole))) | (k_end; wrow_close) | walk1 | (dsimp only; walk1) | (leave1; walk_say "STEP leave1"; try dsimp only)))
  all_goals (refine cb_retI (fun t h' tk' => hret t h' tk' trivial) ?_ (by k_asm) (by k_asm))
  all_goals exact BisInv.done (by assumption) (by omega)
end
section
open PySem PySem.W PyProof.Rows
set_option Elab.async false
set_option maxRecDepth 100000
set_option maxHeartbeats 8000000
local macro_rules | `(tactic| is_list) => `(tactic| exact News.isList (by k_asm) (by with_reducible assumption))
local macro_rules | `(tactic| k_mem) => `(tactic| with_reducible assumption)
theorem ints_item {prog : Program} {w : World} {A : Around} {E : Value → Shared → Prop} {s : Shared} {value slice : PySem.Expr} {l : Addr} {vs : List Value} {ns : List Int} {k : Int} {u : Tok} {Q : Value → Shared → Prop}
    (hl : s.heap.IsList l vs.toArray) (hS : IntsAre vs ns) (h0 : 0 ≤ k) (hk : k < ns.length) (hx : ns.length ≤ 1000) (h : ∀ t, Q (.int (ns.getD k.toNat 0) t) s)
    (hs : subscripted slice false (.ref l) (.int k u) = operate [.ref l, .int k u] (getItem (.ref l) (.int k u)) := by with_unfolding_all rfl) :
    wpAny (model prog w) A (subscriptTail value slice (.ref l) (.int k u)) Q E s := by
  obtain ⟨t, ht⟩ := hS.get k.toNat (ns.getD k.toNat 0) (by rw [List.getD_eq_getElem?_getD, List.getElem?_eq_getElem (by omega)]; rfl)
  exact tail_any hl.typeIs slot_list_getitem.lookup (wpAny_getItem_list hl h0 (by omega) (by simpa using ht) (h t)) hs
local macro_rules | `(tactic| walk_at "exec While Compare cons nil") => `(tactic| (k_here; refine mark_of ?_))
theorem bisi_c {w : World} {loose : List Str} {mean : ExcName → Option Value} {mg mb : Str → Option Value} (l : Addr) (vs : List Value) (ns : List Int) (e : Nat) (t1 t2 : Tok) :
    ConS w loose mean mg mb 30 860 7500 (fun news => (l, listOf vs.toArray e) ∈ news ∧ IntsAre vs ns ∧ 1 ≤ ns.length ∧ ns.length ≤ 10) [.ref l, .int 1 t1, .int 1 t2] [] (fun tk => .int (bisF (fun i => ns.getD i 0) 10 1 ns.length) tk) True := by
  refine ConS.intro ?_
  k_fill
  intros
  rename_i hp hret
  (try dsimp only at hret)
  (try dsimp only at hp)
  obtain ⟨p1, p2, p3, p4⟩ := hp
  refine wpAny_call ?_
  k_with_none
  k_dflt (refine' code_def ?k1 ?k2 ?k3 ?k4 ?k5 ?kA ?kF ?kK ?k6 ?k7 ?k8 ?k9 ?kB ?_ ?c2 ?c3 ?c4 ?c5; (case kA => exact rfl); (case kF => exact rfl); (case kK => assumption); (case k1 => k_asm); (case k2 => k_asm); (case k3 => k_asm); (case k4 => k_asm); (case k5 => k_asm); (case k6 => k_is); (case k7 => k_is); (case k8 => ktr_room); (case k9 => (refine' kp_binds ?kx ?ke; (case kx => k_in); (case ke => exact fun _ => rfl))); (case c5 => decide); (case kB => exact locs rfl); (case c2 => exact rfl); (case c3 => exact rfl); (case c4 => exact rfl); k_whole; intro g' L' h' FG' F' N' B' X' T'; (try dsimp only); (try k_lift B'); (try k_fold))
  w_strict (repeat' (first | (k_unfold; (try dsimp only)) | (with_reducible (k_here; (with_reducible show wpAny _ _ (subscriptTail _ _ (Value.ref _) (Value.int _ _)) _ _ _); (with_unfolding_all refine' ints_item ?k1 ?k2 ?k3 ?k4 ?k5 ?_ ?k6; (case k1 => exact News.isList (by k_asm) (by first | assumption | k_mem)); (case k2 => assumption); (case k3 => first | omega | exact fd_lo (by omega)); (case k4 => first | omega | exact fd_hi (by omega) (by omega)); (case k5 => omega); (case k6 => with_unfolding_all rfl); k_whole); intro t9qi)) | (with_reducible (k_here; (with_reducible show wpAny _ _ (storeName _ _ _) _ _ _); k_dflt (refine' storeX_L ?F ?N ?_ ?a ?b; (case F => k_asm); (case N => k_asm); (case a => exact Eq.refl ScopeKind.function); (case b => exact Eq.refl (some NameKind.local)); k_whole; intro hqiqi Fqiqi Nqiqi; (try k_sweep)))) | (with_reducible (k_here; (with_reducible show wpAny _ _ (eval (Expr.Name _ _) _) _ _ _); k_dflt (refine' nameX_L ?F ?v ?_ ?a ?b ?d; (case F => k_asm); (case a => exact Eq.refl ScopeKind.function); (case b => exact Eq.refl (some NameKind.local)); (case d => exact Eq.refl false); (case v => exact Eq.refl (some _)); k_whole))) | (k_end; wrow_close) | walk1 | (dsimp only; walk1) | (leave1; walk_say "STEP leave1"; try dsimp only)))
  refine mark_in ?_
  (k_with "state" => (refine ⟨?_, ?_, ?_, ?_⟩ <;> first | omega | exact BisInv.start (by omega)))
  k_while_given ["lo!", "hi!"] (fun lo0 hi0 script lo hi => 1 ≤ lo ∧ hi ≤ ns.length ∧ 0 ≤ hi ∧ BisInv (fun i => ns.getD i 0) lo0 hi0 lo hi) (fun lo0 hi0 script lo hi => (hi - lo).toNat) "lo" "hi"
  (k_with "state" => (refine ⟨?_, ?_, ?_, ?_⟩ <;> first | omega | exact BisInv.up (by assumption) (by assumption) (by assumption) | exact BisInv.down (by assumption) (by assumption) (by omega) | exact fd_bnd1 (by assumption) (by omega) | exact fd_bnd2 (by assumption) (by omega) | exact fd_bnd3 (by assumption) (by omega) ))
  (k_with "measure" => first | exact fd_less1 (by assumption) | exact fd_less2 (by assumption))
  w_strict (repeat' (first | (k_unfold; (try dsimp only)) | (with_reducible (k_here; (with_reducible show wpAny _ _ (subscriptTail _ _ (Value.ref _) (Value.int _ _)) _ _ _); (with_unfolding_all refine' ints_item ?k1 ?k2 ?k3 ?k4 ?k5 ?_ ?k6; (case k1 => exact News.isList (by k_asm) (by first | assumption | k_mem)); (case k2 => assumption); (case k3 => first | omega | exact fd_lo (by omega)); (case k4 => first | omega | exact fd_hi (by omega) (by omega)); (case k5 => omega); (case k6 => with_unfolding_all rfl); k_whole); intro t9qi)) | (with_reducible (k_here; (with_reducible show wpAny _ _ (storeName _ _ _) _ _ _); k_dflt (refine' storeX_L ?F ?N ?_ ?a ?b; (case F => k_asm); (case N => k_asm); (case a => exact Eq.refl ScopeKind.function); (case b => exact Eq.refl (some NameKind.local)); k_whole; intro hqiqi Fqiqi Nqiqi; (try k_sweep)))) | (with_reducible (k_here; (with_reducible show wpAny _ _ (eval (Expr.Name _ _) _) _ _ _); k_dflt (refine' nameX_L ?F ?v ?_ ?a ?b ?d; (case F => k_asm); (case a => exact Eq.refl ScopeKind.function); (case b => exact Eq.refl (some NameKind.local)); (case d => exact Eq.refl false); (case v => exact Eq.refl (some _)); k_whole))) | (k_end; wrow_close) | walk1 | (dsimp only; walk1) | (leave1; walk_say "STEP leave1"; try dsimp only)))

  all_goals (refine cb_retI (fun t h' tk' => hret t h' tk' trivial) ?_ (by k_asm) (by k_asm))
  all_goals exact BisInv.done (by assumption) (by omega)
end
section
open PySem PySem.W PyProof.Rows
set_option Elab.async false
set_option maxRecDepth 100000
set_option maxHeartbeats 8000000
noncomputable def subF (a b : Str) : Int := if (a == b) = true then 0 else if (Txt.lower a == Txt.lower b) = true then 1 else 2
theorem subF_bnd (a b : Str) : 0 ≤ subF a b ∧ subF a b ≤ 2 := by unfold subF; split; omega; split <;> omega
theorem sub_c {w : World} {loose : List Str} {mean : ExcName → Option Value} {mg mb : Str → Option Value} (a b : Str) (t1 t2 : Tok) :
    ConS w loose mean mg mb 145 880 7800 (fun news => a.length = 1 ∧ b.length = 1) [.str a t1, .str b t2] [] (fun tk => .int (subF a b) tk) (0 ≤ subF a b ∧ subF a b ≤ 2) := by
  refine ConS.intro ?_
  k_fill
  intros
  rename_i hp hret
  (try dsimp only at hret)
  (try dsimp only at hp)
  obtain ⟨p1, p2⟩ := hp
  refine wpAny_call ?_
  k_dflt cell_enter
  k_with_none
  w_strict (repeat' (first | (k_unfold; (try dsimp only)) | (with_reducible (k_here; (with_reducible show wpAny _ _ (storeName _ _ _) _ _ _); k_dflt ((first | refine' stI ?F ?N ?_ ?a ?b | refine' stS ?F ?N ?_ ?a ?b | refine' stA ?F ?N ?_ ?a ?b); (case F => k_asm); (case N => k_asm); (case a => exact Eq.refl ScopeKind.function); (case b => exact Eq.refl (some NameKind.local)); k_whole; intro hqi tqi uqi Fqi Nqi; (try k_sweep)))) | (with_reducible (k_here; (with_reducible show wpAny _ _ (eval (Expr.Name _ _) _) _ _ _); k_dflt (refine' nameX_L ?F ?v ?_ ?a ?b ?d; (case F => k_asm); (case a => exact Eq.refl ScopeKind.function); (case b => exact Eq.refl (some NameKind.local)); (case d => exact Eq.refl false); (case v => exact Eq.refl (some _)); k_whole))) | (k_end; wrow_close) | walk1 | (dsimp only; walk1) | (leave1; walk_say "STEP leave1"; try dsimp only)))
  all_goals (refine cb_retI (fun t h' tk' => hret t h' tk' (subF_bnd _ _)) ?_ (by k_asm) (by k_asm))
  all_goals clear hret
  all_goals (unfold subF; simp [*]; done)
end
section
open PySem PySem.W PyProof.Rows PyProof.V PySem.Spec PySem.Calls
set_option Elab.async false
set_option maxRecDepth 100000
set_option maxHeartbeats 8000000
section
variable {prog : Program} {w : World} {A : Around} {E : Value → Shared → Prop} {s : Shared} {env : Env} {h₀ : Heap} {L : Addr} {Q : Flow → Shared → Prop} {news : List (Addr × Obj)}

noncomputable def W1End (h₀ : Heap) (L : Addr) (y : Str) (m₀ : Str → Option Value) (news : List (Addr × Obj)) (D : Int → Prop) (s s₂ : Shared) : Prop :=
  ∃ (a : Int) (t : Tok) (h : Heap) (tk : Nat) (m : Str → Option Value), s₂ = { s with heap := h, toks := tk } ∧ Fr h₀ L h m ∧ News h₀ L h news ∧ m y = some (.int a t) ∧ (∀ z, z ≠ y → m z = m₀ z) ∧ D a
noncomputable def W1Post (h₀ : Heap) (L : Addr) (y : Str) (m₀ : Str → Option Value) (news : List (Addr × Obj)) (D : Int → Prop) (s : Shared) (Q : Flow → Shared → Prop) (f : Flow) (s₂ : Shared) : Prop :=
  match f with
  | .ret v => Q (.ret v) s₂
  | .brk => Q .next s₂
  | _ => W1End h₀ L y m₀ news D s s₂
theorem W1End.mk' {y : Str} {m₀ : Str → Option Value} {D : Int → Prop} {a : Int} {t : Tok} {h : Heap} {tk : Nat} {m : Str → Option Value} (F : Fr h₀ L h m) (N : News h₀ L h news) (hy : m y = some (.int a t)) (hr : ∀ z, z ≠ y → m z = m₀ z) (hd : D a) :
    W1End h₀ L y m₀ news D s { s with heap := h, toks := tk } := ⟨a, t, h, tk, m, rfl, F, N, hy, hr, hd⟩
theorem map_one' {y : Str} {m m₀ : Str → Option Value} {v : Value} (hy : m y = some v) (hr : ∀ z, z ≠ y → m z = m₀ z) : m = fun z => if z = y then some v else m₀ z := by
  funext z
  by_cases hz : z = y
  · rw [if_pos hz, hz, hy]
  · rw [if_neg hz, hr z hz]
theorem my_while1 {test : Expr} {body : List Stmt} {pos : Pos} {m₀ : Str → Option Value} {a₀ : Int} {t₀ : Tok} (y : Str) (P D : Int → Prop) (μ : Int → Nat)
    (F : Fr h₀ L s.heap m₀) (N : News h₀ L s.heap news) (hy : m₀ y = some (.int a₀ t₀)) (hp : P a₀)
    (turn : ∀ (a : Int) (t : Tok) (h : Heap) (tk : Nat), P a → Fr h₀ L h (fun z => if z = y then some (.int a t) else m₀ z) → News h₀ L h news →
      wpAny (model prog w) A (isTrue test env (eval test env)) (fun b s₂ =>
        if b = true then wpAny (model prog w) A (execs body env) (W1Post h₀ L y m₀ news (fun a' => P a' ∧ μ a' < μ a) s Q) E s₂ else W1End h₀ L y m₀ news D s s₂) E { s with heap := h, toks := tk })
    (done : ∀ (a : Int) (t : Tok) (h : Heap) (tk : Nat), D a → Fr h₀ L h (fun z => if z = y then some (.int a t) else m₀ z) → News h₀ L h news → Q .next { s with heap := h, toks := tk })
    (hE : PassesOwn (model prog w) A env E := by passes_own) :
    wpAny (model prog w) A (exec (.While test body [] pos) env) Q E s := by
  refine While_inv2 (fun n m nx => ∃ a t, nx = news ∧ μ a = n ∧ m y = some (.int a t) ∧ (∀ z, z ≠ y → m z = m₀ z) ∧ P a) F N ⟨a₀, t₀, rfl, rfl, hy, fun _ _ => rfl, hp⟩ ?_ hE
  rintro n m₁ nx h tk F₁ N₁ ⟨a, t, hnx, hsz, h1, h2, hp'⟩
  rw [hnx] at N₁
  rw [← hsz]
  rw [map_one' h1 h2] at F₁
  refine wpAny_mono (turn a t h tk hp' F₁ N₁) (fun b s₂ p => ?_) fun _ _ x => x
  cases b with
  | false =>
    simp only [Bool.false_eq_true, if_false] at p ⊢
    obtain ⟨a', t', h', tk', m', rfl, F', N', hy', hr', hd'⟩ := p
    rw [map_one' hy' hr'] at F'
    exact done a' t' h' tk' hd' F' N'
  | true =>
    simp only [if_true] at p ⊢
    refine wpAny_mono p (fun f s₃ q => ?_) fun _ _ x => x
    cases f with
    | ret v => exact q
    | brk => exact q
    | next =>
      obtain ⟨a', t', h', tk', m', rfl, F', N', hy', hr', hd', hm'⟩ := q
      exact ⟨h', tk', m', news, μ a', rfl, F', N', hm', a', t', rfl, rfl, hy', hr', hd'⟩
    | cont =>
      obtain ⟨a', t', h', tk', m', rfl, F', N', hy', hr', hd', hm'⟩ := q
      exact ⟨h', tk', m', news, μ a', rfl, F', N', hm', a', t', rfl, rfl, hy', hr', hd'⟩

noncomputable def CutStr (h₀ : Heap) (L : Addr) (m₀ : Str → Option Value) (news : List (Addr × Obj)) (y v : Str) (s : Shared) (f : Flow) (s₂ : Shared) : Prop :=
  f = .next ∧ ∃ (t : Tok) (h : Heap) (tk : Nat) (m : Str → Option Value), s₂ = { s with heap := h, toks := tk } ∧ Fr h₀ L h m ∧ News h₀ L h news ∧ m y = some (.str v t) ∧ (∀ z, z ≠ y → m z = m₀ z)
theorem CutStr.mk' {y v : Str} {m₀ : Str → Option Value} {t : Tok} {h : Heap} {tk : Nat} {m : Str → Option Value} (F : Fr h₀ L h m) (N : News h₀ L h news) (hy : m y = some (.str v t)) (hr : ∀ z, z ≠ y → m z = m₀ z) :
    CutStr h₀ L m₀ news y v s .next { s with heap := h, toks := tk } := ⟨rfl, t, h, tk, m, rfl, F, N, hy, hr⟩
theorem cut_str {st : Stmt} {m₀ : Str → Option Value} (y v : Str) (F : Fr h₀ L s.heap m₀) (N : News h₀ L s.heap news)
    (h1 : wpAny (model prog w) A (exec st env) (CutStr h₀ L m₀ news y v s) E s)
    (h2 : ∀ (t : Tok) (h : Heap) (tk : Nat), Fr h₀ L h (fun z => if z = y then some (.str v t) else m₀ z) → News h₀ L h news → Q .next { s with heap := h, toks := tk }) :
    wpAny (model prog w) A (exec st env) Q E s := by
  refine wpAny_mono h1 (fun f s₂ q => ?_) fun _ _ x => x
  obtain ⟨rfl, t, h, tk, m, rfl, F', N', hy, hr⟩ := q
  rw [map_one' hy hr] at F'
  exact h2 t h tk F' N'
end
end
section
local macro_rules | `(tactic| omega) => `(tactic| first | lia | omega (config := {}))
section
open PySem PySem.W PyProof.Rows PyProof.V PySem.Spec PySem.Calls
set_option Elab.async false
set_option maxRecDepth 100000
set_option maxHeartbeats 8000000
noncomputable abbrev LevV := Int × Int × Int × List Int
noncomputable abbrev levR (a bc : Str) (d r : Int) (ns : List Int) (i : Nat) : Int :=
  if d + subF bc (Txt.item a (i : Int)) < (if ns.getD (i : Int).toNat 0 < r then ns.getD (i : Int).toNat 0 else r) + 2 then d + subF bc (Txt.item a (i : Int)) else (if ns.getD (i : Int).toNat 0 < r then ns.getD (i : Int).toNat 0 else r) + 2
noncomputable def levStep (a bc : Str) (v : LevV) (i : Nat) : LevV :=
  (v.2.2.2.getD (i : Int).toNat 0, levR a bc v.1 v.2.1 v.2.2.2 i, if levR a bc v.1 v.2.1 v.2.2.2 i < v.2.2.1 then levR a bc v.1 v.2.1 v.2.2.2 i else v.2.2.1, v.2.2.2.set (i : Int).toNat (levR a bc v.1 v.2.1 v.2.2.2 i))
theorem levStep_lt {a bc : Str} {d r mn : Int} {ns : List Int} {i : Nat} (h : levR a bc d r ns i < mn) : levStep a bc (d, r, mn, ns) i = (ns.getD (i : Int).toNat 0, levR a bc d r ns i, levR a bc d r ns i, ns.set (i : Int).toNat (levR a bc d r ns i)) := by
  show (_, _, (if levR a bc d r ns i < mn then levR a bc d r ns i else mn), _) = _
  rw [if_pos h]
theorem levStep_ge {a bc : Str} {d r mn : Int} {ns : List Int} {i : Nat} (h : ¬ levR a bc d r ns i < mn) : levStep a bc (d, r, mn, ns) i = (ns.getD (i : Int).toNat 0, levR a bc d r ns i, mn, ns.set (i : Int).toNat (levR a bc d r ns i)) := by
  show (_, _, (if levR a bc d r ns i < mn then levR a bc d r ns i else mn), _) = _
  rw [if_neg h]
noncomputable def levRow (a bc : Str) (v : LevV) (i : Nat) : LevV := (List.range i).foldl (levStep a bc) v
theorem levRow_succ (a bc : Str) (v : LevV) (i : Nat) : levRow a bc v (i + 1) = levStep a bc (levRow a bc v i) i := by
  unfold levRow; rw [List.range_succ, List.foldl_append]; rfl
theorem levRow_len (a bc : Str) (v : LevV) : ∀ i, (levRow a bc v i).2.2.2.length = v.2.2.2.length
  | 0 => rfl
  | i + 1 => by rw [levRow_succ]; unfold levStep; simp only [List.length_set]; exact levRow_len a bc v i
structure LSt where
  vs : List Value
  e : Nat
  d : Int
  td : Tok
  r : Int
  tr : Tok
  mn : Int
  tm : Tok
noncomputable abbrev lvLed (row : Addr) (rest : List (Addr × Obj)) (c : LSt) : List (Addr × Obj) := (row, listOf c.vs.toArray c.e) :: rest
noncomputable abbrev lvPs (c : LSt) : List (Str × Value) := [(Str.ofString "distance", .int c.d c.td), (Str.ofString "result", .int c.r c.tr), (Str.ofString "minimum", .int c.mn c.tm)]
noncomputable def LvInv (a bc : Str) (v : LevV) (i : Nat) (c : LSt) : Prop := ∃ ns, IntsAre c.vs ns ∧ levRow a bc v i = (c.d, c.r, c.mn, ns)
noncomputable abbrev lvStored : List Str := [Str.ofString "substitute", Str.ofString "insert_delete"]
noncomputable abbrev LvPost (h₀ : Heap) (L : Addr) (row : Addr) (rest : List (Addr × Obj)) (m₀ : Str → Option Value) (a bc : Str) (v : LevV) (i : Nat) (I : Addr) (oI : Obj) (Q : Flow → Shared → Prop) (s₁ : Shared) (f : Flow) (s₂ : Shared) : Prop :=
  TxPost h₀ L (Str.ofString "index") (lvLed row rest) lvPs lvStored m₀ (LvInv a bc v i) I oI Q s₁ f s₂
theorem lev_inner {prog : Program} {w : World} {A : Around} {E : Value → Shared → Prop} {s : Shared} {env : Env} {h₀ : Heap} {body : List Stmt} {Q : Flow → Shared → Prop} {m₀ : Str → Option Value} {row rg : Addr} {rest : List (Addr × Obj)} {t1 t2 t3 t₀ u₀ v₀ : Tok} {vs : List Value} {ns ns₀ : List Int} {e : Nat} {d r mn : Int} {a bc : Str}
    (F : Fr h₀ env.locals s.heap m₀) (N : News h₀ env.locals s.heap ((row, listOf vs.toArray e) :: rest)) (hh : A.handled = none) (hr : IsRange s.heap rg 0 (a.length : Int) 1 t₀ u₀ v₀) (hlen : a.length ≤ 8) (hi : IntsAre vs ns) (hl : ns.length = a.length)
    (h1 : m₀ (Str.ofString "distance") = some (.int d t1)) (h2 : m₀ (Str.ofString "result") = some (.int r t2)) (h3 : m₀ (Str.ofString "minimum") = some (.int mn t3))
    (turn : ∀ (vs : List Value) (ns : List Int) (e : Nat) (d' : Int) (td : Tok) (r' : Int) (tr : Tok) (mn' : Int) (tm : Tok) (i : Nat) (t : Tok) (u : Str → Option Value) (h : Heap) (tk : Nat) (I : Addr) (oI : Obj), i < a.length → IntsAre vs ns → ns.length = a.length → levRow a bc (d, r, mn, ns₀) i = (d', r', mn', ns) →
      @Ne Nat row I → (∀ p ∈ rest, p.1 ≠ I) →
      Fr h₀ env.locals h (fun y => if y = Str.ofString "index" then some (.int (i : Int) t) else if y = Str.ofString "distance" then some (.int d' td) else if y = Str.ofString "result" then some (.int r' tr) else if y = Str.ofString "minimum" then some (.int mn' tm) else if lvStored.contains y then u y else m₀ y) →
      News h₀ env.locals h ((I, oI) :: (row, listOf vs.toArray e) :: rest) →
      wpAny (model prog w) A (execs body env) (LvPost h₀ env.locals row rest m₀ a bc (d, r, mn, ns₀) (i + 1) I oI Q { s with heap := h, toks := tk }) E { s with heap := h, toks := tk })
    (hns : ns₀ = ns)
    (done : ∀ (vs : List Value) (ns : List Int) (e : Nat) (d' : Int) (td : Tok) (r' : Int) (tr : Tok) (mn' : Int) (tm : Tok) (ui : Str → Option Value) (u : Str → Option Value) (h : Heap) (tk : Nat), IntsAre vs ns → ns.length = a.length → levRow a bc (d, r, mn, ns₀) a.length = (d', r', mn', ns) →
      Fr h₀ env.locals h (fun y => if y = Str.ofString "index" then ui y else if y = Str.ofString "distance" then some (.int d' td) else if y = Str.ofString "result" then some (.int r' tr) else if y = Str.ofString "minimum" then some (.int mn' tm) else if lvStored.contains y then u y else m₀ y) →
      News h₀ env.locals h ((row, listOf vs.toArray e) :: rest) → Q .next { s with heap := h, toks := tk }) :
    wpAny (model prog w) A (pyIter (.ref rg)) (fun it s₂ => LoopAtV prog w A h₀ env (Str.ofString "index") body Q E it s₂) E s := by
  subst hns
  refine my_range (n := a.length) (lvLed row rest) lvPs lvStored (LvInv a bc (d, r, mn, ns₀)) ⟨vs, e, d, t1, r, t2, mn, t3⟩ hh hr (small_one (by omega) (by omega) (by omega) (by omega)) (by rw [rangeSize_nat]; simp) F N ?_ ⟨ns₀, hi, rfl⟩ ?_ ?_
  · intro p hp
    rcases List.mem_cons.mp hp with rfl | hp
    · exact h1
    rcases List.mem_cons.mp hp with rfl | hp
    · exact h2
    rcases List.mem_cons.mp hp with rfl | hp
    · exact h3
    cases hp
  · rintro ⟨vs, e, d', td, r', tr, mn', tm⟩ i t u h tk I oI hlt ⟨ns, hns, hrun⟩ hne F₁ N₁
    dsimp only at hns hrun
    have hL : ns.length = a.length := by
      have := levRow_len a bc (d, r, mn, ns₀) i
      rw [hrun] at this
      exact this.trans hl
    refine turn vs ns e d' td r' tr mn' tm i t u h tk I oI hlt hns hL hrun (hne _ (.head _)) (fun p hp => hne p (.tail _ hp)) ?_ N₁
    simpa only [kstB] using F₁
  · rintro ⟨vs, e, d', td, r', tr, mn', tm⟩ u h tk ⟨ns, hns, hrun⟩ F₁ N₁
    dsimp only at hns hrun
    have hL : ns.length = a.length := by
      have := levRow_len a bc (d, r, mn, ns₀) a.length
      rw [hrun] at this
      exact this.trans hl
    refine done vs ns e d' td r' tr mn' tm u u h tk hns hL hrun ?_ N₁
    simpa only [kstB] using F₁

/-- the outer loop: the result and the row -/
noncomputable abbrev LevO := Int × List Int
noncomputable def levOStep (a b : Str) (v : LevO) (j : Nat) : LevO :=
  let x := levRow a (Txt.item b j) ((j : Int) * 2, (j : Int) * 2, 9223372036854775807, v.2) a.length
  (x.2.1, x.2.2.2)
noncomputable def levOut (a b : Str) (v : LevO) (j : Nat) : LevO := (List.range j).foldl (levOStep a b) v
/-- the least of each row -/
noncomputable def levMin (a b : Str) (v : LevO) (j : Nat) : Int := (levRow a (Txt.item b j) ((j : Int) * 2, (j : Int) * 2, 9223372036854775807, (levOut a b v j).2) a.length).2.2.1
theorem levOut_succ (a b : Str) (v : LevO) (j : Nat) : levOut a b v (j + 1) = levOStep a b (levOut a b v j) j := by
  unfold levOut; rw [List.range_succ, List.foldl_append]; rfl
theorem levOut_len (a b : Str) (v : LevO) : ∀ j, (levOut a b v j).2.length = v.2.length
  | 0 => rfl
  | j + 1 => by rw [levOut_succ]; unfold levOStep; rw [levRow_len]; exact levOut_len a b v j
structure OSt where
  vs : List Value
  e : Nat
  r : Int
  tr : Tok
noncomputable abbrev ovLed (row : Addr) (rest : List (Addr × Obj)) (c : OSt) : List (Addr × Obj) := (row, listOf c.vs.toArray c.e) :: rest
noncomputable abbrev ovPs (c : OSt) : List (Str × Value) := [(Str.ofString "result", .int c.r c.tr)]
noncomputable def OvInv (a b : Str) (v : LevO) (j : Nat) (c : OSt) : Prop := ∃ ns, IntsAre c.vs ns ∧ levOut a b v j = (c.r, ns)
noncomputable abbrev ovStored : List Str := [Str.ofString "bchar", Str.ofString "distance", Str.ofString "minimum", Str.ofString "index", Str.ofString "substitute", Str.ofString "insert_delete"]
noncomputable abbrev OvPost (h₀ : Heap) (L : Addr) (row : Addr) (rest : List (Addr × Obj)) (m₀ : Str → Option Value) (a b : Str) (v : LevO) (j : Nat) (I : Addr) (oI : Obj) (Q : Flow → Shared → Prop) (s₁ : Shared) (f : Flow) (s₂ : Shared) : Prop :=
  TxPost h₀ L (Str.ofString "bindex") (ovLed row rest) ovPs ovStored m₀ (OvInv a b v j) I oI Q s₁ f s₂
theorem lev_outer {prog : Program} {w : World} {A : Around} {E : Value → Shared → Prop} {s : Shared} {env : Env} {h₀ : Heap} {body : List Stmt} {Q : Flow → Shared → Prop} {m₀ : Str → Option Value} {row rg : Addr} {rest : List (Addr × Obj)} {t2 t₀ u₀ v₀ : Tok} {vs : List Value} {ns₀ : List Int} {e : Nat} {r : Int} {a b : Str}
    (F : Fr h₀ env.locals s.heap m₀) (N : News h₀ env.locals s.heap ((row, listOf vs.toArray e) :: rest)) (hh : A.handled = none) (hr : IsRange s.heap rg 0 (b.length : Int) 1 t₀ u₀ v₀) (hlen : b.length ≤ 8) (hi : IntsAre vs ns₀) (hl : ns₀.length = a.length)
    (h2 : m₀ (Str.ofString "result") = some (.int r t2))
    (turn : ∀ (vs : List Value) (ns : List Int) (e : Nat) (r' : Int) (tr : Tok) (j : Nat) (t : Tok) (u : Str → Option Value) (h : Heap) (tk : Nat) (I : Addr) (oI : Obj), j < b.length → IntsAre vs ns → ns.length = a.length → levOut a b (r, ns₀) j = (r', ns) →
      @Ne Nat row I → (∀ p ∈ rest, p.1 ≠ I) →
      Fr h₀ env.locals h (fun y => if y = Str.ofString "bindex" then some (.int (j : Int) t) else if y = Str.ofString "result" then some (.int r' tr) else if ovStored.contains y then u y else m₀ y) →
      News h₀ env.locals h ((I, oI) :: (row, listOf vs.toArray e) :: rest) →
      wpAny (model prog w) A (execs body env) (OvPost h₀ env.locals row rest m₀ a b (r, ns₀) (j + 1) I oI Q { s with heap := h, toks := tk }) E { s with heap := h, toks := tk })
    (done : ∀ (vs : List Value) (ns : List Int) (e : Nat) (r' : Int) (tr : Tok) (ui : Str → Option Value) (u : Str → Option Value) (h : Heap) (tk : Nat), levOut a b (r, ns₀) b.length = (r', ns) →
      Fr h₀ env.locals h (fun y => if y = Str.ofString "bindex" then ui y else if y = Str.ofString "result" then some (.int r' tr) else if ovStored.contains y then u y else m₀ y) →
      News h₀ env.locals h ((row, listOf vs.toArray e) :: rest) → Q .next { s with heap := h, toks := tk }) :
    wpAny (model prog w) A (pyIter (.ref rg)) (fun it s₂ => LoopAtV prog w A h₀ env (Str.ofString "bindex") body Q E it s₂) E s := by
  refine my_range (n := b.length) (ovLed row rest) ovPs ovStored (OvInv a b (r, ns₀)) ⟨vs, e, r, t2⟩ hh hr (small_one (by omega) (by omega) (by omega) (by omega)) (by rw [rangeSize_nat]; simp) F N ?_ ⟨ns₀, hi, rfl⟩ ?_ ?_
  · intro p hp
    rcases List.mem_cons.mp hp with rfl | hp
    · exact h2
    cases hp
  · rintro ⟨vs, e, r', tr⟩ j t u h tk I oI hlt ⟨ns, hns, hrun⟩ hne F₁ N₁
    dsimp only at hns hrun
    have hL : ns.length = a.length := by
      have := levOut_len a b (r, ns₀) j
      rw [hrun] at this
      exact this.trans hl
    refine turn vs ns e r' tr j t u h tk I oI hlt hns hL hrun (hne _ (.head _)) (fun p hp => hne p (.tail _ hp)) ?_ N₁
    simpa only [kstB] using F₁
  · rintro ⟨vs, e, r', tr⟩ u h tk ⟨ns, hns, hrun⟩ F₁ N₁
    dsimp only at hns hrun
    refine done vs ns e r' tr u u h tk hrun ?_ N₁
    simpa only [kstB] using F₁

theorem my_ints_of {a c : Int} : ∀ {n : Nat} {k : Nat} {ys : List Value}, ys.length = n → (∀ j v, ys[j]? = some v → ∃ t, v = Value.int (a + ((k + j : Nat) : Int) * c) t) → IntsAre ys ((List.range' k n).map fun (i : Nat) => a + (i : Int) * c)
  | 0, k, ys, hl, _ => by
    obtain rfl : ys = [] := List.eq_nil_of_length_eq_zero hl
    exact .nil
  | n + 1, k, ys, hl, h => by
    cases ys with
    | nil => simp at hl
    | cons y r =>
      obtain ⟨t, e⟩ := h 0 y rfl
      rw [e]
      refine .cons _ _ ?_
      refine my_ints_of (by simpa using hl) fun j v hj => ?_
      obtain ⟨t', e'⟩ := h (j + 1) v (by simpa using hj)
      exact ⟨t', by rw [e']; congr 3; omega⟩
theorem my_list_range {prog : Program} {w : World} {A : Around} {E : Value → Shared → Prop} {s : Shared} {h₀ : Heap} {L r : Addr} {m : Str → Option Value} {news : List (Addr × Obj)} {a b c : Int} {t₀ u₀ v₀ : Tok} {n : Nat} {Q : Value → Shared → Prop}
    (hh : A.handled = none) (F : Fr h₀ L s.heap m) (N : News h₀ L s.heap news) (hr : IsRange s.heap r a b c t₀ u₀ v₀) (hsmall : Builtin.Range.small a b c = true) (hn : Builtin.Range.rangeSize a b c = (n : Int)) (hz : n ≤ 2 ^ 24)
    (h : ∀ D us k h' tk, Fr h₀ L h' m → News h₀ L h' ((D, listOf (List.toArray us) k) :: news) → (∀ p ∈ news, p.1 < D) → IntsAre us (rangeInts a c n) → Q (.ref D) { s with heap := h', toks := tk }) :
    wpAny (model prog w) A (call (.type "list") [.ref r]) Q E s := by
  refine call_list_range hh hr hsmall hn hz fun h' tk acc k hk hD hI => ?_
  have hD' : h'.get? s.heap.objs.size = some (listOf (List.toArray acc.toList) k) := by
    rw [Array.toArray_toList]
    exact hD
  refine h _ acc.toList k h' tk (F.keeps hk) (news_pushed F N hk hD' rfl) (fun p hp => Heap.lt_size (N p hp).1) ?_
  unfold rangeInts
  rw [List.range_eq_range']
  refine my_ints_of (by rw [Array.length_toList]; exact hI.1) fun j v hj => ?_
  rw [Nat.zero_add]
  exact hI.2 j v (by rw [← hj, Array.getElem?_toList])
theorem small_step2 : ∀ n : Nat, n ≤ 8 → Builtin.Range.small 2 (2 * ((n : Int) + 1)) 2 = true := by decide
theorem size_step2 : ∀ n : Nat, n ≤ 8 → Builtin.Range.rangeSize 2 (2 * ((n : Int) + 1)) 2 = (n : Int) := by decide
end
end
section
open PySem PySem.W PyProof.Rows
set_option Elab.async false
set_option maxRecDepth 100000
set_option maxHeartbeats 8000000
noncomputable def pairOf (q r : Int) (o : Obj) : Prop := ∃ t1 t2 : Tok, o = { cls := .type "tuple", data := .seq #[.int q t1, .int r t2] }
theorem off1_size {h₀ h : Heap} {L : Addr} {news : List (Addr × Obj)} (N : News h₀ L h news) : LCg.Off1 h.objs.size news :=
  off1_of_lt (fun p hp => Heap.lt_size (N p hp).1)
theorem d21a_c {w : World} {loose : List Str} {mean : ExcName → Option Value} {mg mb : Str → Option Value} (a b n : Int) (t1 t2 t3 : Tok) :
    ConO w loose mean mg mb 37 600 5000 (fun news => b ≠ 0 ∧ (Builtin.Int.intBits a : Int) - n ≤ 4000 ∧ b.natAbs.log2 < 9000) [.int a t1, .int b t2, .int n t3] [] (pairOf (a.fdiv b) (a.fmod b)) := by
  refine ConO.intro ?_
  k_fill
  intros
  rename_i hp hret
  (try dsimp only at hret)
  (try dsimp only at hp)
  obtain ⟨p1, p2, p3⟩ := hp
  refine wpAny_call ?_
  k_dflt cell_enter
  k_with_none
  w_strict (repeat' (first | (k_unfold; (try dsimp only)) | (with_reducible (k_here; (with_reducible show wpAny _ _ (storeName _ _ _) _ _ _); k_dflt ((first | refine' stI ?F ?N ?_ ?a ?b | refine' stS ?F ?N ?_ ?a ?b | refine' stA ?F ?N ?_ ?a ?b); (case F => k_asm); (case N => k_asm); (case a => exact Eq.refl ScopeKind.function); (case b => exact Eq.refl (some NameKind.local)); k_whole; intro hqi tqi uqi Fqi Nqi; (try k_sweep)))) | (with_reducible (k_here; (with_reducible show wpAny _ _ (eval (Expr.Name _ _) _) _ _ _); k_dflt (refine' nameX_L ?F ?v ?_ ?a ?b ?d; (case F => k_asm); (case a => exact Eq.refl ScopeKind.function); (case b => exact Eq.refl (some NameKind.local)); (case d => exact Eq.refl false); (case v => exact Eq.refl (some _)); k_whole))) | (k_end; wrow_close) | walk1 | (dsimp only; walk1) | (leave1; walk_say "STEP leave1"; try dsimp only)))
  all_goals (with_reducible rename News _ _ _ _ => kN; with_reducible rename Fr _ _ _ _ => kF)
  have kO := off1_size kN
  refine divmod_N kF kN p1 ?_ ?_
  rotate_left
  exact Or.inl (PyProof.noPylong_of_log2 p3)
  intro h5 F5 N5
  w_strict (repeat' (first | (k_unfold; (try dsimp only)) | (with_reducible (k_here; (with_reducible show wpAny _ _ (storeName _ _ _) _ _ _); k_dflt ((first | refine' stI ?F ?N ?_ ?a ?b | refine' stS ?F ?N ?_ ?a ?b | refine' stA ?F ?N ?_ ?a ?b); (case F => k_asm); (case N => k_asm); (case a => exact Eq.refl ScopeKind.function); (case b => exact Eq.refl (some NameKind.local)); k_whole; intro hqi tqi uqi Fqi Nqi; (try k_sweep)))) | (with_reducible (k_here; (with_reducible show wpAny _ _ (eval (Expr.Name _ _) _) _ _ _); k_dflt (refine' nameX_L ?F ?v ?_ ?a ?b ?d; (case F => k_asm); (case a => exact Eq.refl ScopeKind.function); (case b => exact Eq.refl (some NameKind.local)); (case d => exact Eq.refl false); (case v => exact Eq.refl (some _)); k_whole))) | (k_end; wrow_close) | walk1 | (dsimp only; walk1) | (leave1; walk_say "STEP leave1"; try dsimp only)))
  exact hret _ _ _ _ ⟨_, _, rfl⟩ (by k_asm) (by k_asm) kO
end
section
local macro_rules | `(tactic| omega) => `(tactic| first | lia | omega (config := {}))
section
open PySem PySem.W PyProof.Rows
set_option Elab.async false
set_option maxRecDepth 100000
theorem bits_of_lt {x : Int} {k : Nat} (h0 : 0 ≤ x) (h : x < 2 ^ k) : Builtin.Int.intBits x ≤ k := by
  refine intBits_le_iff.mpr ?_
  have e : ((x.natAbs : Nat) : Int) < ((2 ^ k : Nat) : Int) := by
    rw [Int.natAbs_of_nonneg h0, Int.natCast_pow]
    exact h
  exact Int.ofNat_lt.mp e
theorem lt_of_bits {x : Int} {k : Nat} (h : Builtin.Int.intBits x ≤ k) : x < 2 ^ k := by
  have e := intBits_le_iff.mp h
  have e2 : ((x.natAbs : Nat) : Int) < ((2 ^ k : Nat) : Int) := Int.ofNat_lt.mpr e
  rw [Int.natCast_pow] at e2
  have e3 : x ≤ ((x.natAbs : Nat) : Int) := Int.le_natAbs
  exact Int.lt_of_le_of_lt e3 e2
theorem p2_pos (k : Nat) : (0 : Int) < 2 ^ k := Int.pow_pos (by decide)
theorem p2_toNat (k : Nat) : ((2 : Int) ^ k).toNat = 2 ^ k := by
  have : ((2 : Int) ^ k) = ((2 ^ k : Nat) : Int) := by rw [Int.natCast_pow]; rfl
  rw [this]; exact Int.toNat_natCast _
theorem and_mask {a : Int} (k : Nat) (ha : 0 ≤ a) : Builtin.bitAnd a (2 ^ k - 1) = a % 2 ^ k := by
  have hp := p2_pos k
  rw [bitAnd_pp ha (by omega)]
  have e : ((2 : Int) ^ k - 1).toNat = 2 ^ k - 1 := by
    have := p2_toNat k
    omega
  rw [e, Nat.and_two_pow_sub_one_eq_mod]
  have e2 : (a : Int) = ((a.toNat : Nat) : Int) := (Int.toNat_of_nonneg ha).symm
  rw [Int.natCast_emod, Int.natCast_pow, ← e2]; rfl
theorem nat_and_high (r y k : Nat) (hy : y < 2 ^ k) : (r * 2 ^ k) &&& y = 0 := by
  have e : y = y &&& (2 ^ k - 1) := by rw [Nat.and_two_pow_sub_one_eq_mod, Nat.mod_eq_of_lt hy]
  rw [e, Nat.and_comm y, ← Nat.and_assoc, Nat.and_two_pow_sub_one_eq_mod, Nat.mul_mod_left, Nat.zero_and]
theorem or_low {r y : Int} (k : Nat) (hr : 0 ≤ r) (h0 : 0 ≤ y) (h1 : y < 2 ^ k) : Builtin.bitOr (r * 2 ^ k) y = r * 2 ^ k + y := by
  have hp := p2_pos k
  have hx : 0 ≤ r * 2 ^ k := Int.mul_nonneg hr (Int.le_of_lt hp)
  rw [bitOr_and, bitAnd_pp hx h0]
  have e : (r * 2 ^ k).toNat = r.toNat * 2 ^ k := by
    rw [Int.toNat_mul hr (Int.le_of_lt hp), p2_toNat]
  have e2 : y.toNat < 2 ^ k := by
    have := p2_toNat k
    omega
  rw [e, nat_and_high _ _ _ e2]
  omega
theorem nat_and_floor (x k : Nat) : x &&& (x / 2 ^ k * 2 ^ k) = x / 2 ^ k * 2 ^ k := by
  rw [← Nat.shiftRight_eq_div_pow, ← Nat.shiftLeft_eq]
  apply Nat.eq_of_testBit_eq
  intro i
  rw [Nat.testBit_and, Nat.testBit_shiftLeft, Nat.testBit_shiftRight]
  by_cases h : i ≥ k
  · simp only [h, decide_true, Bool.true_and]
    rw [Nat.add_sub_cancel' h, Bool.and_self]
  · simp [h]
theorem xor_floor {x : Int} (k : Nat) (hx : 0 ≤ x) : Builtin.bitXor x (x / 2 ^ k * 2 ^ k) = x % 2 ^ k := by
  have hp := p2_pos k
  have hd : 0 ≤ x / 2 ^ k := Int.ediv_nonneg hx (Int.le_of_lt hp)
  have hy : 0 ≤ x / 2 ^ k * 2 ^ k := Int.mul_nonneg hd (Int.le_of_lt hp)
  rw [bitXor_and, bitAnd_pp hx hy]
  have e : (x / 2 ^ k * 2 ^ k).toNat = x.toNat / 2 ^ k * 2 ^ k := by
    rw [Int.toNat_mul hd (Int.le_of_lt hp), p2_toNat]
    congr 1
    obtain ⟨m, rfl⟩ := Int.eq_ofNat_of_zero_le hx
    rw [show (2 : Int) ^ k = ((2 ^ k : Nat) : Int) from (Int.natCast_pow 2 k).symm, ← Int.natCast_ediv, Int.toNat_natCast, Int.toNat_natCast]
  rw [e, nat_and_floor, ← e, Int.toNat_of_nonneg hy]
  have := Int.mul_ediv_add_emod x (2 ^ k)
  rw [Int.mul_comm] at this
  omega
theorem div_unique {a b q r : Int} (hb : 0 < b) (h : q * b + r = a) (h0 : 0 ≤ r) (h1 : r < b) : a.fdiv b = q ∧ a.fmod b = r := by
  rw [Int.fdiv_eq_ediv_of_nonneg _ (Int.le_of_lt hb), Int.fmod_eq_emod_of_nonneg _ (Int.le_of_lt hb)]
  refine (Int.ediv_emod_unique hb).mpr ⟨?_, h0, h1⟩
  rw [Int.mul_comm b q]; omega
/-- what `_div3n2n` asks of its arguments -/
structure D32 (p a12 a3 b b1 b2 n : Int) : Prop where
  hp : p = 2 ^ n.toNat
  n0 : 0 ≤ n
  n1 : n ≤ 3000
  a0 : 0 ≤ a12
  c0 : 0 ≤ a3
  c1 : a3 < p
  e0 : 0 ≤ b2
  e1 : b2 < p
  d0 : 0 < b1
  hb : b = b1 * p + b2
  lt : a12 * p + a3 < b * p
  bb : b < p * p
namespace D32
variable {p a12 a3 b b1 b2 n : Int} (h : D32 p a12 a3 b b1 b2 n)
include h
theorem p0 : 0 < p := by rw [h.hp]; exact p2_pos _
theorem b0 : 0 < b := by
  have h1 := Int.mul_pos h.d0 h.p0
  have h2 := h.hb
  have h3 := h.e0
  omega
theorem alt : a12 < b := by
  refine Int.lt_of_mul_lt_mul_right (a := p) ?_ (Int.le_of_lt h.p0)
  have h1 := h.lt
  have h2 := h.c0
  omega
theorem pp : p * p = 2 ^ (2 * n.toNat) := by rw [h.hp, ← Int.pow_add]; congr 1; omega
theorem ba : Builtin.Int.intBits a12 ≤ 2 * n.toNat := bits_of_lt h.a0 (by rw [← h.pp]; exact Int.lt_trans h.alt h.bb)
theorem bp : Builtin.Int.intBits p ≤ n.toNat + 1 := bits_of_lt (Int.le_of_lt h.p0) (by rw [h.hp]; have := p2_pos n.toNat; rw [Int.pow_succ]; omega)
theorem b1lt : b1 ≤ b := by
  have h1 : b1 * 1 ≤ b1 * p := Int.mul_le_mul_of_nonneg_left h.p0 (Int.le_of_lt h.d0)
  have h2 := h.hb
  have h3 := h.e0
  omega
theorem bb1 : Builtin.Int.intBits b1 ≤ 2 * n.toNat := bits_of_lt (Int.le_of_lt h.d0) (by rw [← h.pp]; exact Int.lt_of_le_of_lt h.b1lt h.bb)
theorem bb2 : Builtin.Int.intBits b2 ≤ n.toNat := bits_of_lt h.e0 (by rw [← h.hp]; exact h.e1)
theorem bbb : Builtin.Int.intBits b ≤ 2 * n.toNat := bits_of_lt (Int.le_of_lt h.b0) (by rw [← h.pp]; exact h.bb)
end D32
theorem log2_of_bits {x : Int} {k : Nat} (h : Builtin.Int.intBits x ≤ k) (hx : x ≠ 0) : x.natAbs.log2 < k := by
  have e := intBits_le_iff.mp h
  exact (Nat.log2_lt (by omega)).mpr e
end
section
open PySem PySem.W PyProof.Rows
set_option Elab.async false
set_option maxRecDepth 100000
section
variable {prog : Program} {w : World} {A : Around} {E : Value → Shared → Prop} {s : Shared} {a b n p : Int} {t u : Tok} {Q : Value → Shared → Prop}
theorem bshl (hp : p = 2 ^ n.toNat) (hn : 0 ≤ n) (k : Nat) (hs : Builtin.Int.intBits a ≤ k) (hk : k + n.toNat ≤ 100000) (h : ∀ v, v = a * p → Q (.int v s.toks) { s with toks := s.toks + 1 }) : wpAny (model prog w) A (binaryOp .LShift (.int a t) (.int n u)) Q E s :=
  lshift_int hn (by have e : (2 : Int) ^ 27 = 134217728 := by decide
                    rw [e]; omega) (h _ (by rw [hp]))
theorem bishl (hp : p = 2 ^ n.toNat) (hn : 0 ≤ n) (k : Nat) (hs : Builtin.Int.intBits a ≤ k) (hk : k + n.toNat ≤ 100000) (h : ∀ v, v = a * p → Q (.int v s.toks) { s with toks := s.toks + 1 }) : wpAny (model prog w) A (inplaceOp .LShift (.int a t) (.int n u)) Q E s :=
  ilshift_int hn (by have e : (2 : Int) ^ 27 = 134217728 := by decide
                     rw [e]; omega) (h _ (by rw [hp]))
theorem bshr (hp : p = 2 ^ n.toNat) (hn : 0 ≤ n) (h : ∀ v, v = a / p → Q (.int v s.toks) { s with toks := s.toks + 1 }) : wpAny (model prog w) A (binaryOp .RShift (.int a t) (.int n u)) Q E s :=
  rshift_int hn (h _ (by rw [hp]; exact Int.fdiv_eq_ediv_of_nonneg _ (Int.le_of_lt (p2_pos _))))
theorem bishr (hp : p = 2 ^ n.toNat) (hn : 0 ≤ n) (h : ∀ v, v = a / p → Q (.int v s.toks) { s with toks := s.toks + 1 }) : wpAny (model prog w) A (inplaceOp .RShift (.int a t) (.int n u)) Q E s :=
  irshift_int hn (h _ (by rw [hp]; exact Int.fdiv_eq_ediv_of_nonneg _ (Int.le_of_lt (p2_pos _))))
theorem bor (hv : ∀ v, v = Builtin.bitOr a b → Q (.int v s.toks) { s with toks := s.toks + 1 }) : wpAny (model prog w) A (binaryOp .BitOr (.int a t) (.int b u)) Q E s := or_int (hv _ rfl)
theorem band (hv : ∀ v, v = Builtin.bitAnd a b → Q (.int v s.toks) { s with toks := s.toks + 1 }) : wpAny (model prog w) A (binaryOp .BitAnd (.int a t) (.int b u)) Q E s := and_int (hv _ rfl)
theorem bxor (hv : ∀ v, v = Builtin.bitXor a b → Q (.int v s.toks) { s with toks := s.toks + 1 }) : wpAny (model prog w) A (binaryOp .BitXor (.int a t) (.int b u)) Q E s := xor_int (hv _ rfl)
theorem bfdiv (hb : b ≠ 0) (hl : b.natAbs.log2 < 9000) (hv : ∀ v, v = a.fdiv b → Q (.int v s.toks) { s with toks := s.toks + 1 }) : wpAny (model prog w) A (binaryOp .FloorDiv (.int a t) (.int b u)) Q E s :=
  floordiv_int hb (hv _ rfl) (Or.inl (PyProof.noPylong_of_log2 hl))
theorem bmod (hb : b ≠ 0) (hv : ∀ v, v = a.fmod b → Q (.int v s.toks) { s with toks := s.toks + 1 }) : wpAny (model prog w) A (binaryOp .Mod (.int a t) (.int b u)) Q E s :=
  mod_int' hb (hv _ rfl)
theorem bpow (hn : 0 ≤ n) (k : Nat) (hk : Builtin.Int.intBits a ≤ k) (hm : k * n.toNat ≤ 100000) (hv : ∀ v, v = a ^ n.toNat → Q (.int v s.toks) { s with toks := s.toks + 1 }) : wpAny (model prog w) A (binaryOp .Pow (.int a t) (.int n u)) Q E s :=
  pow_int hn (by
    have e : (2 : Int) ^ 27 = 134217728 := by decide
    have h1 : Builtin.Int.intBits a * n.toNat ≤ k * n.toNat := Nat.mul_le_mul_right _ hk
    have h2 : (Builtin.Int.intBits a : Int) * n = ((Builtin.Int.intBits a * n.toNat : Nat) : Int) := by rw [Int.natCast_mul, Int.toNat_of_nonneg hn]
    rw [e, h2]; omega) (hv _ rfl)
theorem bmul (i j : Nat) (ha : Builtin.Int.intBits a ≤ i) (hb : Builtin.Int.intBits b ≤ j) (hij : i + j ≤ 100000) (hv : ∀ v, v = a * b → Q (.int v s.toks) { s with toks := s.toks + 1 }) : wpAny (model prog w) A (binaryOp .Mult (.int a t) (.int b u)) Q E s :=
  mul_int (hv _ rfl) (mulOk_of_bits ha hb (by omega))
end
namespace D32
variable {p a12 a3 b b1 b2 n : Int} (h : D32 p a12 a3 b b1 b2 n)
include h
theorem nn : n.toNat ≤ 3000 := by have := h.n1; omega
theorem for21 : b1 ≠ 0 ∧ (Builtin.Int.intBits a12 : Int) - n ≤ 4000 ∧ b1.natAbs.log2 < 9000 := by
  have h1 := h.d0
  have h2 := h.ba
  have h3 := h.nn
  have h4 := h.n0
  have h5 := log2_of_bits h.bb1 (by omega)
  refine ⟨by omega, by omega, by omega⟩
/-- what the first step leaves: the quotient and the rest by b1 -/
theorem step_eq {v v1 v2 : Int} (hv : v = a12 / p) (he : v = b1) (h1 : v1 = 1 * p) (h2 : v2 = b1 * p) : 0 ≤ a12 - v2 + b1 ∧ a12 = (v1 - 1) * b1 + (a12 - v2 + b1) ∧ Builtin.Int.intBits (v1 - 1) ≤ 9009 ∧ Builtin.Int.intBits (a12 - v2 + b1) ≤ 9009 := by
  have hp := h.p0
  have k1 := h.ba
  have k2 := h.bb1
  have k3 := h.bp
  have k4 := h.nn
  have h3 : b1 * p ≤ a12 := by
    rw [← he, hv]
    exact Int.ediv_mul_le a12 (by omega)
  have h4 := h.d0
  refine ⟨by omega, ?_, ?_, ?_⟩
  · rw [h1, h2, Int.one_mul, Int.sub_mul, Int.mul_comm p b1]; omega
  · rw [h1, Int.one_mul]
    refine bits_of_lt (by omega) ?_
    have : p ≤ 2 ^ 9009 := by
      rw [h.hp]
      have : ((2 ^ n.toNat : Nat) : Int) ≤ ((2 ^ 9009 : Nat) : Int) := Int.ofNat_le.mpr (Nat.pow_le_pow_right (by decide) (by omega))
      rw [Int.natCast_pow, Int.natCast_pow] at this
      exact this
    omega
  · refine Nat.le_trans (bits_add (m := 9005) (n := 9005) (Nat.le_trans (bits_sub (m := 9001) (n := 9001) ?_ ?_) (by decide)) (by omega)) (by decide)
    · omega
    · rw [h2]
      exact Nat.le_trans (bits_mul k2 k3) (by omega)
theorem step_ne (hv : ¬ a12 / p = b1) : 0 ≤ a12.fmod b1 ∧ a12 = a12.fdiv b1 * b1 + a12.fmod b1 ∧ Builtin.Int.intBits (a12.fdiv b1) ≤ 9009 ∧ Builtin.Int.intBits (a12.fmod b1) ≤ 9009 := by
  have h4 := h.d0
  have k1 := h.ba
  have k2 := h.bb1
  have k4 := h.nn
  refine ⟨Int.fmod_nonneg_of_pos _ h4, ?_, Nat.le_trans (bits_fdiv k1) (by omega), Nat.le_trans (bits_fmod_by (by omega) k2) (by omega)⟩
  have := Int.mul_fdiv_add_fmod a12 b1
  rw [Int.mul_comm] at this
  omega
theorem step_ne' {v : Int} (hv : v = a12 / p) (he : ¬ v = b1) : 0 ≤ a12.fmod b1 ∧ a12 = a12.fdiv b1 * b1 + a12.fmod b1 ∧ Builtin.Int.intBits (a12.fdiv b1) ≤ 9009 ∧ Builtin.Int.intBits (a12.fmod b1) ≤ 9009 := h.step_ne (by rw [← hv]; exact he)
/-- the first estimate; q b + r stays what is to be divided -/
theorem first {q r v o m : Int} (h0 : 0 ≤ r) (he : a12 = q * b1 + r) (hv : v = r * p) (ho : o = Builtin.bitOr v a3) (hm : m = q * b2) : q * b + (o - m) = a12 * p + a3 := by
  rw [ho, hv, h.hp, or_low _ h0 h.c0 (by rw [← h.hp]; exact h.c1), ← h.hp, hm]
  have hb := h.hb
  have e1 : q * b = q * b1 * p + q * b2 := by rw [hb, Int.mul_add, Int.mul_assoc]
  have e2 : a12 * p = q * b1 * p + r * p := by rw [← Int.add_mul, ← he]
  omega
/-- the rest stays under b where the quotient is p - 1 or more small -/
theorem under {q r : Int} (he : q * b + r = a12 * p + a3) (hq : p - 1 ≤ q) : r < b := by
  have h1 := h.lt
  have h2 : (p - 1) * b ≤ q * b := Int.mul_le_mul_of_nonneg_right hq (Int.le_of_lt h.b0)
  rw [Int.sub_mul, Int.one_mul, Int.mul_comm p b] at h2
  omega
theorem quot0 {q r : Int} (h0 : 0 ≤ r) (hr : r < b1) (he : a12 = q * b1 + r) : 0 ≤ q := by
  apply Int.not_lt.mp
  intro hq
  have : q * b1 ≤ (-1) * b1 := Int.mul_le_mul_of_nonneg_right (by omega) (Int.le_of_lt h.d0)
  have := h.a0
  omega
set_option linter.unusedVariables false in
theorem under2 {q r v o m : Int} (h0 : 0 ≤ r) (hr : r < b1) (hq : 0 ≤ q) (hv : v = r * p) (ho : o = Builtin.bitOr v a3) (hm : m = q * b2) : o - m < b := by
  rw [ho, hv, h.hp, or_low _ h0 h.c0 (by rw [← h.hp]; exact h.c1), ← h.hp, hm]
  have h1 : 0 ≤ q * b2 := Int.mul_nonneg hq h.e0
  have h2 : (r + 1) * p ≤ b1 * p := Int.mul_le_mul_of_nonneg_right (by omega) (Int.le_of_lt h.p0)
  rw [Int.add_mul, Int.one_mul] at h2
  have := h.hb
  have := h.c1
  have := h.e0
  omega
theorem done {q r : Int} (he : q * b + r = a12 * p + a3) (h0 : 0 ≤ r) (h1 : r < b) : (a12 * p + a3).fdiv b = q ∧ (a12 * p + a3).fmod b = r := div_unique h.b0 he h0 h1
end D32
end
end
section
open PySem PySem.W PyProof.Rows
set_option Elab.async false
set_option maxRecDepth 100000
set_option maxHeartbeats 8000000
local macro_rules | `(tactic| walk_at "exec While") => `(tactic| (k_here; refine mark_of ?_))
local macro_rules | `(tactic| walk_at "binaryOp LShift int int") => `(tactic| (k_here; refine mark_of ?_))
local macro_rules | `(tactic| walk_at "binaryOp RShift int int") => `(tactic| (k_here; refine mark_of ?_))
local macro_rules | `(tactic| walk_at "binaryOp Mult int int") => `(tactic| (k_here; refine mark_of ?_))
local macro_rules | `(tactic| walk_at "binaryOp BitOr int int") => `(tactic| (k_here; refine mark_of ?_))
theorem News.drop2 {h₀ h : Heap} {L : Addr} {x y : Addr × Obj} {l : List (Addr × Obj)} (N : News h₀ L h (x :: y :: l)) : News h₀ L h (x :: l) := fun q hq => N q (by
  rcases List.mem_cons.mp hq with rfl | hq
  · exact .head _
  · exact .tail _ (.tail _ hq))
theorem D32.pair {p a12 a3 b b1 b2 n : Int} (h : D32 p a12 a3 b b1 b2 n) {q r : Int} {t t' : Tok} (he : q * b + r = a12 * p + a3) (h0 : ¬ r < 0) (h1 : r < b) : pairOf ((a12 * p + a3).fdiv b) ((a12 * p + a3).fmod b) { cls := .type "tuple", data := .seq #[.int q t, .int r t'] } := by
  obtain ⟨d1, d2⟩ := h.done he (by omega) h1
  exact ⟨t, t', by rw [d1, d2]⟩
theorem D32.turn {q r b a : Int} (h : q * b + r = a) (_ : r < 0) : (q - 1) * b + (r + b) = a := by
  rw [Int.sub_mul]; omega
theorem D32.turn2 {r b : Int} (h : r < 0) : r + b < b := by omega
theorem D32.turn3 {p a12 a3 b b1 b2 n r : Int} (h : D32 p a12 a3 b b1 b2 n) (hr : r < 0) : (-(r + b)).toNat < (-r).toNat := by
  have := h.b0
  omega
theorem d32_c {w : World} {loose : List Str} {mean : ExcName → Option Value} {mg mb : Str → Option Value} (p a12 a3 b b1 b2 n : Int) (t1 t2 t3 t4 t5 t6 : Tok) :
    ConO w loose mean mg mb 44 560 4500 (fun news => D32 p a12 a3 b b1 b2 n) [.int a12 t1, .int a3 t2, .int b t3, .int b1 t4, .int b2 t5, .int n t6] [] (pairOf ((a12 * p + a3).fdiv b) ((a12 * p + a3).fmod b)) := by
  refine ConO.intro ?_
  k_fill
  intros
  rename_i hp hret
  (try dsimp only at hret)
  (try dsimp only at hp)
  have hp0 := hp.hp
  have hn0 := hp.n0
  refine wpAny_call ?_
  k_dflt cell_enter
  k_with_none
  w_strict (repeat' (first | (k_unfold; (try dsimp only)) | (with_reducible (k_here; (with_reducible show wpAny _ _ (call (Value.ref 37) [Value.int _ _, Value.int _ _, Value.int _ _]) _ _ _); k_dflt ( refine' (d21a_c _ _ _ _ _ _ ).use ?k1 ?k2 ?k3 ?k4 ?k5 ?kK ?kp ?kd ?ku ?_; (case k1 => k_asm); (case k2 => k_asm); (case k3 => k_asm); (case k4 => k_asm); (case k5 => k_asm); (case kK => first | exact rfl | assumption); (case kp => exact D32.for21 (by assumption)); (case kd => exact Nat.le_of_ble_eq_true rfl); (case ku => exact Nat.le_of_ble_eq_true rfl); intro x9qi o9qi h9qi tk9qi g9qi F9qi N9qi O9qi; (obtain ⟨q9qi, r9qi, e9qi⟩ := g9qi; subst e9qi); (try dsimp only); (try k_fold)))) | (with_reducible (k_here; (with_reducible show wpAny _ _ (storeName _ _ _) _ _ _); k_dflt (refine' storeX_L ?F ?N ?_ ?a ?b; (case F => k_asm); (case N => k_asm); (case a => exact Eq.refl ScopeKind.function); (case b => exact Eq.refl (some NameKind.local)); k_whole; intro hqiqi Fqiqi Nqiqi; (try k_sweep)))) | (with_reducible (k_here; (with_reducible show wpAny _ _ (eval (Expr.Name _ _) _) _ _ _); k_dflt (refine' nameX_L ?F ?v ?_ ?a ?b ?d; (case F => k_asm); (case a => exact Eq.refl ScopeKind.function); (case b => exact Eq.refl (some NameKind.local)); (case d => exact Eq.refl false); (case v => exact Eq.refl (some _)); k_whole))) | (k_end; wrow_close) | walk1 | (dsimp only; walk1) | (leave1; walk_say "STEP leave1"; try dsimp only)))
  refine mark_in (bshr hp0 hn0 ?_)
  intro v1 hv1
  w_strict (repeat' (first | (k_unfold; (try dsimp only)) | (with_reducible (k_here; (with_reducible show wpAny _ _ (call (Value.ref 37) [Value.int _ _, Value.int _ _, Value.int _ _]) _ _ _); k_dflt ( refine' (d21a_c _ _ _ _ _ _ ).use ?k1 ?k2 ?k3 ?k4 ?k5 ?kK ?kp ?kd ?ku ?_; (case k1 => k_asm); (case k2 => k_asm); (case k3 => k_asm); (case k4 => k_asm); (case k5 => k_asm); (case kK => first | exact rfl | assumption); (case kp => exact D32.for21 (by assumption)); (case kd => exact Nat.le_of_ble_eq_true rfl); (case ku => exact Nat.le_of_ble_eq_true rfl); intro x9qi o9qi h9qi tk9qi g9qi F9qi N9qi O9qi; (obtain ⟨q9qi, r9qi, e9qi⟩ := g9qi; subst e9qi); (try dsimp only); (try k_fold)))) | (with_reducible (k_here; (with_reducible show wpAny _ _ (storeName _ _ _) _ _ _); k_dflt (refine' storeX_L ?F ?N ?_ ?a ?b; (case F => k_asm); (case N => k_asm); (case a => exact Eq.refl ScopeKind.function); (case b => exact Eq.refl (some NameKind.local)); k_whole; intro hqiqi Fqiqi Nqiqi; (try k_sweep)))) | (with_reducible (k_here; (with_reducible show wpAny _ _ (eval (Expr.Name _ _) _) _ _ _); k_dflt (refine' nameX_L ?F ?v ?_ ?a ?b ?d; (case F => k_asm); (case a => exact Eq.refl ScopeKind.function); (case b => exact Eq.refl (some NameKind.local)); (case d => exact Eq.refl false); (case v => exact Eq.refl (some _)); k_whole))) | (k_end; wrow_close) | walk1 | (dsimp only; walk1) | (leave1; walk_say "STEP leave1"; try dsimp only)))
  · refine mark_in (bshl hp0 hn0 64 (by decide) (by have := hp.nn; omega) ?_)
    intro v2 hv2
    w_strict (repeat' (first | (k_unfold; (try dsimp only)) | (with_reducible (k_here; (with_reducible show wpAny _ _ (call (Value.ref 37) [Value.int _ _, Value.int _ _, Value.int _ _]) _ _ _); k_dflt ( refine' (d21a_c _ _ _ _ _ _ ).use ?k1 ?k2 ?k3 ?k4 ?k5 ?kK ?kp ?kd ?ku ?_; (case k1 => k_asm); (case k2 => k_asm); (case k3 => k_asm); (case k4 => k_asm); (case k5 => k_asm); (case kK => first | exact rfl | assumption); (case kp => exact D32.for21 (by assumption)); (case kd => exact Nat.le_of_ble_eq_true rfl); (case ku => exact Nat.le_of_ble_eq_true rfl); intro x9qi o9qi h9qi tk9qi g9qi F9qi N9qi O9qi; (obtain ⟨q9qi, r9qi, e9qi⟩ := g9qi; subst e9qi); (try dsimp only); (try k_fold)))) | (with_reducible (k_here; (with_reducible show wpAny _ _ (storeName _ _ _) _ _ _); k_dflt (refine' storeX_L ?F ?N ?_ ?a ?b; (case F => k_asm); (case N => k_asm); (case a => exact Eq.refl ScopeKind.function); (case b => exact Eq.refl (some NameKind.local)); k_whole; intro hqiqi Fqiqi Nqiqi; (try k_sweep)))) | (with_reducible (k_here; (with_reducible show wpAny _ _ (eval (Expr.Name _ _) _) _ _ _); k_dflt (refine' nameX_L ?F ?v ?_ ?a ?b ?d; (case F => k_asm); (case a => exact Eq.refl ScopeKind.function); (case b => exact Eq.refl (some NameKind.local)); (case d => exact Eq.refl false); (case v => exact Eq.refl (some _)); k_whole))) | (k_end; wrow_close) | walk1 | (dsimp only; walk1) | (leave1; walk_say "STEP leave1"; try dsimp only)))
    refine mark_in (bshl hp0 hn0 6000 (Nat.le_trans hp.bb1 (by have := hp.nn; omega)) (by have := hp.nn; omega) ?_)
    intro v3 hv3
    w_strict (repeat' (first | (k_unfold; (try dsimp only)) | (with_reducible (k_here; (with_reducible show wpAny _ _ (call (Value.ref 37) [Value.int _ _, Value.int _ _, Value.int _ _]) _ _ _); k_dflt ( refine' (d21a_c _ _ _ _ _ _ ).use ?k1 ?k2 ?k3 ?k4 ?k5 ?kK ?kp ?kd ?ku ?_; (case k1 => k_asm); (case k2 => k_asm); (case k3 => k_asm); (case k4 => k_asm); (case k5 => k_asm); (case kK => first | exact rfl | assumption); (case kp => exact D32.for21 (by assumption)); (case kd => exact Nat.le_of_ble_eq_true rfl); (case ku => exact Nat.le_of_ble_eq_true rfl); intro x9qi o9qi h9qi tk9qi g9qi F9qi N9qi O9qi; (obtain ⟨q9qi, r9qi, e9qi⟩ := g9qi; subst e9qi); (try dsimp only); (try k_fold)))) | (with_reducible (k_here; (with_reducible show wpAny _ _ (storeName _ _ _) _ _ _); k_dflt (refine' storeX_L ?F ?N ?_ ?a ?b; (case F => k_asm); (case N => k_asm); (case a => exact Eq.refl ScopeKind.function); (case b => exact Eq.refl (some NameKind.local)); k_whole; intro hqiqi Fqiqi Nqiqi; (try k_sweep)))) | (with_reducible (k_here; (with_reducible show wpAny _ _ (eval (Expr.Name _ _) _) _ _ _); k_dflt (refine' nameX_L ?F ?v ?_ ?a ?b ?d; (case F => k_asm); (case a => exact Eq.refl ScopeKind.function); (case b => exact Eq.refl (some NameKind.local)); (case d => exact Eq.refl false); (case v => exact Eq.refl (some _)); k_whole))) | (k_end; wrow_close) | walk1 | (dsimp only; walk1) | (leave1; walk_say "STEP leave1"; try dsimp only)))
    obtain ⟨e0, e1, e2, e3⟩ := hp.step_eq hv1 (by assumption) hv2 hv3
    refine mark_in (bshl hp0 hn0 9009 e3 (by have := hp.nn; omega) ?_)
    intro v4 hv4
    w_strict (repeat' (first | (k_unfold; (try dsimp only)) | (with_reducible (k_here; (with_reducible show wpAny _ _ (call (Value.ref 37) [Value.int _ _, Value.int _ _, Value.int _ _]) _ _ _); k_dflt ( refine' (d21a_c _ _ _ _ _ _ ).use ?k1 ?k2 ?k3 ?k4 ?k5 ?kK ?kp ?kd ?ku ?_; (case k1 => k_asm); (case k2 => k_asm); (case k3 => k_asm); (case k4 => k_asm); (case k5 => k_asm); (case kK => first | exact rfl | assumption); (case kp => exact D32.for21 (by assumption)); (case kd => exact Nat.le_of_ble_eq_true rfl); (case ku => exact Nat.le_of_ble_eq_true rfl); intro x9qi o9qi h9qi tk9qi g9qi F9qi N9qi O9qi; (obtain ⟨q9qi, r9qi, e9qi⟩ := g9qi; subst e9qi); (try dsimp only); (try k_fold)))) | (with_reducible (k_here; (with_reducible show wpAny _ _ (storeName _ _ _) _ _ _); k_dflt (refine' storeX_L ?F ?N ?_ ?a ?b; (case F => k_asm); (case N => k_asm); (case a => exact Eq.refl ScopeKind.function); (case b => exact Eq.refl (some NameKind.local)); k_whole; intro hqiqi Fqiqi Nqiqi; (try k_sweep)))) | (with_reducible (k_here; (with_reducible show wpAny _ _ (eval (Expr.Name _ _) _) _ _ _); k_dflt (refine' nameX_L ?F ?v ?_ ?a ?b ?d; (case F => k_asm); (case a => exact Eq.refl ScopeKind.function); (case b => exact Eq.refl (some NameKind.local)); (case d => exact Eq.refl false); (case v => exact Eq.refl (some _)); k_whole))) | (k_end; wrow_close) | walk1 | (dsimp only; walk1) | (leave1; walk_say "STEP leave1"; try dsimp only)))
    refine mark_in (bor ?_)
    intro v5 hv5
    w_strict (repeat' (first | (k_unfold; (try dsimp only)) | (with_reducible (k_here; (with_reducible show wpAny _ _ (call (Value.ref 37) [Value.int _ _, Value.int _ _, Value.int _ _]) _ _ _); k_dflt ( refine' (d21a_c _ _ _ _ _ _ ).use ?k1 ?k2 ?k3 ?k4 ?k5 ?kK ?kp ?kd ?ku ?_; (case k1 => k_asm); (case k2 => k_asm); (case k3 => k_asm); (case k4 => k_asm); (case k5 => k_asm); (case kK => first | exact rfl | assumption); (case kp => exact D32.for21 (by assumption)); (case kd => exact Nat.le_of_ble_eq_true rfl); (case ku => exact Nat.le_of_ble_eq_true rfl); intro x9qi o9qi h9qi tk9qi g9qi F9qi N9qi O9qi; (obtain ⟨q9qi, r9qi, e9qi⟩ := g9qi; subst e9qi); (try dsimp only); (try k_fold)))) | (with_reducible (k_here; (with_reducible show wpAny _ _ (storeName _ _ _) _ _ _); k_dflt (refine' storeX_L ?F ?N ?_ ?a ?b; (case F => k_asm); (case N => k_asm); (case a => exact Eq.refl ScopeKind.function); (case b => exact Eq.refl (some NameKind.local)); k_whole; intro hqiqi Fqiqi Nqiqi; (try k_sweep)))) | (with_reducible (k_here; (with_reducible show wpAny _ _ (eval (Expr.Name _ _) _) _ _ _); k_dflt (refine' nameX_L ?F ?v ?_ ?a ?b ?d; (case F => k_asm); (case a => exact Eq.refl ScopeKind.function); (case b => exact Eq.refl (some NameKind.local)); (case d => exact Eq.refl false); (case v => exact Eq.refl (some _)); k_whole))) | (k_end; wrow_close) | walk1 | (dsimp only; walk1) | (leave1; walk_say "STEP leave1"; try dsimp only)))
    refine mark_in (bmul 9009 3000 e2 (Nat.le_trans hp.bb2 hp.nn) (by decide) ?_)
    intro v6 hv6
    have e7 := hp.first e0 e1 hv4 hv5 hv6
    have e8 := hp.under e7 (by omega)
    w_strict (repeat' (first | (k_unfold; (try dsimp only)) | (with_reducible (k_here; (with_reducible show wpAny _ _ (call (Value.ref 37) [Value.int _ _, Value.int _ _, Value.int _ _]) _ _ _); k_dflt ( refine' (d21a_c _ _ _ _ _ _ ).use ?k1 ?k2 ?k3 ?k4 ?k5 ?kK ?kp ?kd ?ku ?_; (case k1 => k_asm); (case k2 => k_asm); (case k3 => k_asm); (case k4 => k_asm); (case k5 => k_asm); (case kK => first | exact rfl | assumption); (case kp => exact D32.for21 (by assumption)); (case kd => exact Nat.le_of_ble_eq_true rfl); (case ku => exact Nat.le_of_ble_eq_true rfl); intro x9qi o9qi h9qi tk9qi g9qi F9qi N9qi O9qi; (obtain ⟨q9qi, r9qi, e9qi⟩ := g9qi; subst e9qi); (try dsimp only); (try k_fold)))) | (with_reducible (k_here; (with_reducible show wpAny _ _ (storeName _ _ _) _ _ _); k_dflt (refine' storeX_L ?F ?N ?_ ?a ?b; (case F => k_asm); (case N => k_asm); (case a => exact Eq.refl ScopeKind.function); (case b => exact Eq.refl (some NameKind.local)); k_whole; intro hqiqi Fqiqi Nqiqi; (try k_sweep)))) | (with_reducible (k_here; (with_reducible show wpAny _ _ (eval (Expr.Name _ _) _) _ _ _); k_dflt (refine' nameX_L ?F ?v ?_ ?a ?b ?d; (case F => k_asm); (case a => exact Eq.refl ScopeKind.function); (case b => exact Eq.refl (some NameKind.local)); (case d => exact Eq.refl false); (case v => exact Eq.refl (some _)); k_whole))) | (k_end; wrow_close) | walk1 | (dsimp only; walk1) | (leave1; walk_say "STEP leave1"; try dsimp only)))
    refine mark_in ?_
    (k_with "state" => exact ⟨by assumption, by assumption⟩)
    k_while_given ["q!", "r!"] (fun q0 r0 script q r => q * b + r = a12 * p + a3 ∧ r < b) (fun q0 r0 script q r => (-r).toNat) "q" "r"
    (k_with "state" => exact ⟨D32.turn (by assumption) (by assumption), D32.turn2 (by assumption)⟩)
    (k_with "measure" => exact D32.turn3 (by assumption) (by assumption))
    w_strict (repeat' (first | (k_unfold; (try dsimp only)) | (with_reducible (k_here; (with_reducible show wpAny _ _ (call (Value.ref 37) [Value.int _ _, Value.int _ _, Value.int _ _]) _ _ _); k_dflt ( refine' (d21a_c _ _ _ _ _ _ ).use ?k1 ?k2 ?k3 ?k4 ?k5 ?kK ?kp ?kd ?ku ?_; (case k1 => k_asm); (case k2 => k_asm); (case k3 => k_asm); (case k4 => k_asm); (case k5 => k_asm); (case kK => first | exact rfl | assumption); (case kp => exact D32.for21 (by assumption)); (case kd => exact Nat.le_of_ble_eq_true rfl); (case ku => exact Nat.le_of_ble_eq_true rfl); intro x9qi o9qi h9qi tk9qi g9qi F9qi N9qi O9qi; (obtain ⟨q9qi, r9qi, e9qi⟩ := g9qi; subst e9qi); (try dsimp only); (try k_fold)))) | (with_reducible (k_here; (with_reducible show wpAny _ _ (storeName _ _ _) _ _ _); k_dflt (refine' storeX_L ?F ?N ?_ ?a ?b; (case F => k_asm); (case N => k_asm); (case a => exact Eq.refl ScopeKind.function); (case b => exact Eq.refl (some NameKind.local)); k_whole; intro hqiqi Fqiqi Nqiqi; (try k_sweep)))) | (with_reducible (k_here; (with_reducible show wpAny _ _ (eval (Expr.Name _ _) _) _ _ _); k_dflt (refine' nameX_L ?F ?v ?_ ?a ?b ?d; (case F => k_asm); (case a => exact Eq.refl ScopeKind.function); (case b => exact Eq.refl (some NameKind.local)); (case d => exact Eq.refl false); (case v => exact Eq.refl (some _)); k_whole))) | (k_end; wrow_close) | walk1 | (dsimp only; walk1) | (leave1; walk_say "STEP leave1"; try dsimp only)))
    exact hret _ _ _ _ (hp.pair (by assumption) (by assumption) (by assumption)) (by k_asm) (News.drop2 (by k_asm)) (off1_of_allLt (And.right (by assumption)))
  · obtain ⟨e0, e1, e2, e3⟩ := hp.step_ne' hv1 (by assumption)
    refine mark_in (bshl hp0 hn0 9009 e3 (by have := hp.nn; omega) ?_)
    intro v4 hv4
    w_strict (repeat' (first | (k_unfold; (try dsimp only)) | (with_reducible (k_here; (with_reducible show wpAny _ _ (call (Value.ref 37) [Value.int _ _, Value.int _ _, Value.int _ _]) _ _ _); k_dflt ( refine' (d21a_c _ _ _ _ _ _ ).use ?k1 ?k2 ?k3 ?k4 ?k5 ?kK ?kp ?kd ?ku ?_; (case k1 => k_asm); (case k2 => k_asm); (case k3 => k_asm); (case k4 => k_asm); (case k5 => k_asm); (case kK => first | exact rfl | assumption); (case kp => exact D32.for21 (by assumption)); (case kd => exact Nat.le_of_ble_eq_true rfl); (case ku => exact Nat.le_of_ble_eq_true rfl); intro x9qi o9qi h9qi tk9qi g9qi F9qi N9qi O9qi; (obtain ⟨q9qi, r9qi, e9qi⟩ := g9qi; subst e9qi); (try dsimp only); (try k_fold)))) | (with_reducible (k_here; (with_reducible show wpAny _ _ (storeName _ _ _) _ _ _); k_dflt (refine' storeX_L ?F ?N ?_ ?a ?b; (case F => k_asm); (case N => k_asm); (case a => exact Eq.refl ScopeKind.function); (case b => exact Eq.refl (some NameKind.local)); k_whole; intro hqiqi Fqiqi Nqiqi; (try k_sweep)))) | (with_reducible (k_here; (with_reducible show wpAny _ _ (eval (Expr.Name _ _) _) _ _ _); k_dflt (refine' nameX_L ?F ?v ?_ ?a ?b ?d; (case F => k_asm); (case a => exact Eq.refl ScopeKind.function); (case b => exact Eq.refl (some NameKind.local)); (case d => exact Eq.refl false); (case v => exact Eq.refl (some _)); k_whole))) | (k_end; wrow_close) | walk1 | (dsimp only; walk1) | (leave1; walk_say "STEP leave1"; try dsimp only)))
    refine mark_in (bor ?_)
    intro v5 hv5
    w_strict (repeat' (first | (k_unfold; (try dsimp only)) | (with_reducible (k_here; (with_reducible show wpAny _ _ (call (Value.ref 37) [Value.int _ _, Value.int _ _, Value.int _ _]) _ _ _); k_dflt ( refine' (d21a_c _ _ _ _ _ _ ).use ?k1 ?k2 ?k3 ?k4 ?k5 ?kK ?kp ?kd ?ku ?_; (case k1 => k_asm); (case k2 => k_asm); (case k3 => k_asm); (case k4 => k_asm); (case k5 => k_asm); (case kK => first | exact rfl | assumption); (case kp => exact D32.for21 (by assumption)); (case kd => exact Nat.le_of_ble_eq_true rfl); (case ku => exact Nat.le_of_ble_eq_true rfl); intro x9qi o9qi h9qi tk9qi g9qi F9qi N9qi O9qi; (obtain ⟨q9qi, r9qi, e9qi⟩ := g9qi; subst e9qi); (try dsimp only); (try k_fold)))) | (with_reducible (k_here; (with_reducible show wpAny _ _ (storeName _ _ _) _ _ _); k_dflt (refine' storeX_L ?F ?N ?_ ?a ?b; (case F => k_asm); (case N => k_asm); (case a => exact Eq.refl ScopeKind.function); (case b => exact Eq.refl (some NameKind.local)); k_whole; intro hqiqi Fqiqi Nqiqi; (try k_sweep)))) | (with_reducible (k_here; (with_reducible show wpAny _ _ (eval (Expr.Name _ _) _) _ _ _); k_dflt (refine' nameX_L ?F ?v ?_ ?a ?b ?d; (case F => k_asm); (case a => exact Eq.refl ScopeKind.function); (case b => exact Eq.refl (some NameKind.local)); (case d => exact Eq.refl false); (case v => exact Eq.refl (some _)); k_whole))) | (k_end; wrow_close) | walk1 | (dsimp only; walk1) | (leave1; walk_say "STEP leave1"; try dsimp only)))
    refine mark_in (bmul 9009 3000 e2 (Nat.le_trans hp.bb2 hp.nn) (by decide) ?_)
    intro v6 hv6
    have e7 := hp.first e0 e1 hv4 hv5 hv6
    have e9 := Int.fmod_lt_of_pos a12 hp.d0
    have e8 := hp.under2 e0 e9 (hp.quot0 e0 e9 e1) hv4 hv5 hv6
    w_strict (repeat' (first | (k_unfold; (try dsimp only)) | (with_reducible (k_here; (with_reducible show wpAny _ _ (call (Value.ref 37) [Value.int _ _, Value.int _ _, Value.int _ _]) _ _ _); k_dflt ( refine' (d21a_c _ _ _ _ _ _ ).use ?k1 ?k2 ?k3 ?k4 ?k5 ?kK ?kp ?kd ?ku ?_; (case k1 => k_asm); (case k2 => k_asm); (case k3 => k_asm); (case k4 => k_asm); (case k5 => k_asm); (case kK => first | exact rfl | assumption); (case kp => exact D32.for21 (by assumption)); (case kd => exact Nat.le_of_ble_eq_true rfl); (case ku => exact Nat.le_of_ble_eq_true rfl); intro x9qi o9qi h9qi tk9qi g9qi F9qi N9qi O9qi; (obtain ⟨q9qi, r9qi, e9qi⟩ := g9qi; subst e9qi); (try dsimp only); (try k_fold)))) | (with_reducible (k_here; (with_reducible show wpAny _ _ (storeName _ _ _) _ _ _); k_dflt (refine' storeX_L ?F ?N ?_ ?a ?b; (case F => k_asm); (case N => k_asm); (case a => exact Eq.refl ScopeKind.function); (case b => exact Eq.refl (some NameKind.local)); k_whole; intro hqiqi Fqiqi Nqiqi; (try k_sweep)))) | (with_reducible (k_here; (with_reducible show wpAny _ _ (eval (Expr.Name _ _) _) _ _ _); k_dflt (refine' nameX_L ?F ?v ?_ ?a ?b ?d; (case F => k_asm); (case a => exact Eq.refl ScopeKind.function); (case b => exact Eq.refl (some NameKind.local)); (case d => exact Eq.refl false); (case v => exact Eq.refl (some _)); k_whole))) | (k_end; wrow_close) | walk1 | (dsimp only; walk1) | (leave1; walk_say "STEP leave1"; try dsimp only)))
    refine mark_in ?_
    (k_with "state" => exact ⟨by assumption, by assumption⟩)
    k_while_given ["q!", "r!"] (fun q0 r0 script q r => q * b + r = a12 * p + a3 ∧ r < b) (fun q0 r0 script q r => (-r).toNat) "q" "r"
    (k_with "state" => exact ⟨D32.turn (by assumption) (by assumption), D32.turn2 (by assumption)⟩)
    (k_with "measure" => exact D32.turn3 (by assumption) (by assumption))
    w_strict (repeat' (first | (k_unfold; (try dsimp only)) | (with_reducible (k_here; (with_reducible show wpAny _ _ (call (Value.ref 37) [Value.int _ _, Value.int _ _, Value.int _ _]) _ _ _); k_dflt ( refine' (d21a_c _ _ _ _ _ _ ).use ?k1 ?k2 ?k3 ?k4 ?k5 ?kK ?kp ?kd ?ku ?_; (case k1 => k_asm); (case k2 => k_asm); (case k3 => k_asm); (case k4 => k_asm); (case k5 => k_asm); (case kK => first | exact rfl | assumption); (case kp => exact D32.for21 (by assumption)); (case kd => exact Nat.le_of_ble_eq_true rfl); (case ku => exact Nat.le_of_ble_eq_true rfl); intro x9qi o9qi h9qi tk9qi g9qi F9qi N9qi O9qi; (obtain ⟨q9qi, r9qi, e9qi⟩ := g9qi; subst e9qi); (try dsimp only); (try k_fold)))) | (with_reducible (k_here; (with_reducible show wpAny _ _ (storeName _ _ _) _ _ _); k_dflt (refine' storeX_L ?F ?N ?_ ?a ?b; (case F => k_asm); (case N => k_asm); (case a => exact Eq.refl ScopeKind.function); (case b => exact Eq.refl (some NameKind.local)); k_whole; intro hqiqi Fqiqi Nqiqi; (try k_sweep)))) | (with_reducible (k_here; (with_reducible show wpAny _ _ (eval (Expr.Name _ _) _) _ _ _); k_dflt (refine' nameX_L ?F ?v ?_ ?a ?b ?d; (case F => k_asm); (case a => exact Eq.refl ScopeKind.function); (case b => exact Eq.refl (some NameKind.local)); (case d => exact Eq.refl false); (case v => exact Eq.refl (some _)); k_whole))) | (k_end; wrow_close) | walk1 | (dsimp only; walk1) | (leave1; walk_say "STEP leave1"; try dsimp only)))
    refine hret _ _ _ _ (hp.pair (by assumption) (by assumption) (by assumption)) (by k_asm) (News.drop2 (by k_asm)) (off1_of_allLt (And.right (by assumption)))
end
section
local macro_rules | `(tactic| omega) => `(tactic| first | lia | omega (config := {}))
section
open PySem PySem.W PyProof.Rows
set_option Elab.async false
set_option maxRecDepth 100000
/-- a even number of bits: what the general `_div2n1n` works on -/
structure N21 (half p a b : Int) : Prop where
  hp : p = 2 ^ half.toNat
  n0 : 0 ≤ half
  n1 : half ≤ 3000
  a0 : 0 ≤ a
  lt : a < b * (p * p)
  pb : p ≤ b
  bb : b < p * p
namespace N21
variable {half p a b v5 v6 v7 v8 v9 P m : Int} (h : N21 half p a b)
include h
theorem p0 : 0 < p := by rw [h.hp]; exact p2_pos _
theorem b0 : 0 < b := Int.lt_of_lt_of_le h.p0 h.pb
theorem nn : half.toNat ≤ 3000 := by have := h.n1; omega
theorem pp : p * p = 2 ^ (2 * half.toNat) := by rw [h.hp, ← Int.pow_add]; congr 1; omega
theorem bitsb : Builtin.Int.intBits b ≤ 6000 := Nat.le_trans (bits_of_lt (Int.le_of_lt h.b0) (by rw [← h.pp]; exact h.bb)) (by have := h.nn; omega)
theorem mask {x v o : Int} (hv : v = 1 * p) (ho : o = Builtin.bitAnd x (v - 1)) (hx : 0 ≤ x) : o = x % p := by
  rw [ho, hv, Int.one_mul, h.hp, and_mask _ hx]
theorem high (h7 : v7 = a / P) (hP : P = p * p) (h8 : v8 = a / p % p) : v7 * p + v8 = a / p := by
  have e : a / P = a / p / p := by rw [hP, Int.ediv_ediv_of_nonneg (Int.le_of_lt h.p0)]
  have := Int.mul_ediv_add_emod (a / p) p
  rw [h7, h8, e, Int.mul_comm]
  exact this
theorem high_lt : a / p < b * p := by
  refine Int.ediv_lt_of_lt_mul h.p0 ?_
  rw [Int.mul_assoc]
  exact h.lt
theorem first (h5 : v5 = b / p) (h6 : v6 = b % p) (h7 : v7 = a / P) (hP : P = p * p) (h8 : v8 = a / p % p) : D32 p v7 v8 b v5 v6 half := by
  have hp := h.p0
  have e := h.high h7 hP h8
  have e2 := h.high_lt
  have e3 := Int.mul_ediv_add_emod b p
  refine ⟨h.hp, h.n0, h.n1, ?_, ?_, ?_, ?_, ?_, ?_, ?_, by omega, h.bb⟩
  · rw [h7, hP]; exact Int.ediv_nonneg h.a0 (Int.le_of_lt (Int.mul_pos hp hp))
  · rw [h8]; exact Int.emod_nonneg _ (by omega)
  · rw [h8]; exact Int.emod_lt_of_pos _ hp
  · rw [h6]; exact Int.emod_nonneg _ (by omega)
  · rw [h6]; exact Int.emod_lt_of_pos _ hp
  · rw [h5]
    have : 1 ≤ b / p := Int.le_ediv_of_mul_le hp (by have := h.pb; omega)
    omega
  · rw [h5, h6, Int.mul_comm]; exact e3.symm
theorem second (h5 : v5 = b / p) (h6 : v6 = b % p) (h7 : v7 = a / P) (hP : P = p * p) (h8 : v8 = a / p % p) (h9 : v9 = a % p) : D32 p ((v7 * p + v8).fmod b) v9 b v5 v6 half := by
  have hp := h.p0
  have D := h.first h5 h6 h7 hP h8
  have e0 := Int.fmod_nonneg_of_pos (v7 * p + v8) h.b0
  have e1 := Int.fmod_lt_of_pos (v7 * p + v8) h.b0
  have f0 : 0 ≤ v9 := by rw [h9]; exact Int.emod_nonneg _ (by omega)
  have f1 : v9 < p := by rw [h9]; exact Int.emod_lt_of_pos _ hp
  refine ⟨h.hp, h.n0, h.n1, e0, f0, f1, D.e0, D.e1, D.d0, D.hb, ?_, h.bb⟩
  generalize (v7 * p + v8).fmod b = r at e0 e1
  have : (r + 1) * p ≤ b * p := Int.mul_le_mul_of_nonneg_right (by omega) (Int.le_of_lt hp)
  rw [Int.add_mul, Int.one_mul] at this
  omega
theorem bitsa : Builtin.Int.intBits a ≤ 12000 := by
  have h1 : a < 2 ^ (2 * half.toNat + 2 * half.toNat) := by
    rw [Int.pow_add, ← h.pp]
    exact Int.lt_trans h.lt (Int.mul_lt_mul_of_pos_right h.bb (Int.mul_pos h.p0 h.p0))
  exact Nat.le_trans (bits_of_lt h.a0 h1) (by have := h.nn; omega)
theorem q1bits (h7 : v7 = a / P) (hP : P = p * p) (h8 : v8 = a / p % p) : Builtin.Int.intBits ((v7 * p + v8).fdiv b) ≤ 12000 := by
  rw [h.high h7 hP h8, ← Int.fdiv_eq_ediv_of_nonneg _ (Int.le_of_lt h.p0)]
  exact bits_fdiv (bits_fdiv h.bitsa)
theorem total {q1 q2 r1 r2 v10 o : Int} (h7 : v7 = a / P) (hP : P = p * p) (h8 : v8 = a / p % p) (h9 : v9 = a % p)
    (hq1 : q1 = (v7 * p + v8).fdiv b) (hr1 : r1 = (v7 * p + v8).fmod b) (hq2 : q2 = (r1 * p + v9).fdiv b) (hr2 : r2 = (r1 * p + v9).fmod b) (h10 : v10 = q1 * p) (ho : o = Builtin.bitOr v10 q2) :
    o = a.fdiv b ∧ r2 = a.fmod b := by
  have hp := h.p0
  have hb := h.b0
  have e := h.high h7 hP h8
  rw [e] at hq1 hr1
  have k1 := Int.fmod_nonneg_of_pos (a / p) hb
  have k2 := Int.fmod_lt_of_pos (a / p) hb
  rw [← hr1] at k1 k2
  have f0 : 0 ≤ v9 := by rw [h9]; exact Int.emod_nonneg _ (by omega)
  have f1 : v9 < p := by rw [h9]; exact Int.emod_lt_of_pos _ hp
  have k3 := Int.fmod_nonneg_of_pos (r1 * p + v9) hb
  have k4 := Int.fmod_lt_of_pos (r1 * p + v9) hb
  rw [← hr2] at k3 k4
  have g1 := Int.mul_fdiv_add_fmod (a / p) b
  rw [← hq1, ← hr1] at g1
  have g2 := Int.mul_fdiv_add_fmod (r1 * p + v9) b
  rw [← hq2, ← hr2] at g2
  have g3 := Int.mul_ediv_add_emod a p
  rw [← h9] at g3
  have m1 : 0 ≤ r1 * p := Int.mul_nonneg k1 (Int.le_of_lt hp)
  have n1 : 0 ≤ q1 := by
    rw [hq1, Int.fdiv_eq_ediv_of_nonneg _ (Int.le_of_lt hb)]
    exact Int.ediv_nonneg (Int.ediv_nonneg h.a0 (Int.le_of_lt hp)) (Int.le_of_lt hb)
  have n2 : 0 ≤ q2 := by
    rw [hq2, Int.fdiv_eq_ediv_of_nonneg _ (Int.le_of_lt hb)]
    exact Int.ediv_nonneg (by omega) (Int.le_of_lt hb)
  have n3 : q2 < p := by
    have : (r1 + 1) * p ≤ b * p := Int.mul_le_mul_of_nonneg_right (by omega) (Int.le_of_lt hp)
    rw [Int.add_mul, Int.one_mul] at this
    rw [hq2, Int.fdiv_eq_ediv_of_nonneg _ (Int.le_of_lt hb)]
    refine Int.ediv_lt_of_lt_mul hb ?_
    rw [Int.mul_comm p b]
    omega
  have oo : o = q1 * p + q2 := by rw [ho, h10, h.hp, or_low _ n1 n2 (by rw [← h.hp]; exact n3)]
  have : a.fdiv b = q1 * p + q2 ∧ a.fmod b = r2 := by
    refine div_unique hb ?_ k3 k4
    have x1 : (q1 * p + q2) * b = p * (b * q1) + b * q2 := by
      rw [Int.add_mul, Int.mul_comm q2 b, Int.mul_comm (q1 * p) b, ← Int.mul_assoc, Int.mul_comm (b * q1) p]
    have x2 : p * (a / p) = p * (b * q1) + r1 * p := by rw [← g1, Int.mul_add, Int.mul_comm p r1]
    omega
  exact ⟨by rw [oo, this.1], this.2.symm⟩
end N21
/-- what `_div2n1n` is called with -/
structure D21 (a b n : Int) : Prop where
  a0 : 0 ≤ a
  b0 : 0 < b
  hn : n = Builtin.Int.intBits b
  n1 : n ≤ 4200
  lt : a < b * 2 ^ n.toNat
theorem bits_ge {b : Int} {k : Nat} (h0 : 0 < b) (h : Builtin.Int.intBits b = k + 1) : 2 ^ k ≤ b := by
  have : ¬ Builtin.Int.intBits b ≤ k := by omega
  exact Int.not_lt.mp (fun hlt => this (bits_of_lt (by omega) hlt))
namespace D21
variable {a b n : Int} (h : D21 a b n)
include h
theorem bound : b < 2 ^ n.toNat := lt_of_bits (by have := h.hn; omega)
theorem n0 : 1 ≤ n := by
  have h1 := h.hn
  have h2 := h.b0
  have h3 : ¬ Builtin.Int.intBits b ≤ 0 := fun h4 => by
    have := lt_of_bits h4
    rw [Int.pow_zero] at this
    omega
  omega
theorem low : 2 * b ≥ 2 ^ n.toNat := by
  have h1 := h.hn
  have h3 := h.n0
  have := bits_ge h.b0 (k := n.toNat - 1) (by omega)
  have e : (2 : Int) ^ n.toNat = 2 * 2 ^ (n.toNat - 1) := by
    rw [Int.mul_comm, ← Int.pow_succ]; congr 1; omega
  omega
theorem bitsa : Builtin.Int.intBits a ≤ 8400 := by
  have h1 := h.bound
  have h2 := h.lt
  have h3 := p2_pos n.toNat
  have : a < 2 ^ (n.toNat + n.toNat) := by
    rw [Int.pow_add]
    exact Int.lt_trans h2 (Int.mul_lt_mul_of_pos_right h1 h3)
  have h4 := h.n1
  exact Nat.le_trans (bits_of_lt h.a0 this) (by omega)
theorem bitsb : Builtin.Int.intBits b ≤ 4200 := by
  have h4 := h.n1
  have h1 := h.hn
  omega
theorem base (hk : (Builtin.Int.intBits a : Int) - n ≤ 4000) : b ≠ 0 ∧ (Builtin.Int.intBits a : Int) - n ≤ 4000 ∧ b.natAbs.log2 < 9000 := by
  have h2 := h.b0
  exact ⟨by omega, hk, Nat.lt_of_lt_of_le (log2_of_bits h.bitsb (by omega)) (by omega)⟩
theorem big (hk : ¬ (Builtin.Int.intBits a : Int) - n ≤ 4000) : 4000 < n := by
  have h1 := h.bound
  have h2 := h.lt
  have h3 := p2_pos n.toNat
  have : a < 2 ^ (n.toNat + n.toNat) := by
    rw [Int.pow_add]
    exact Int.lt_trans h2 (Int.mul_lt_mul_of_pos_right h1 h3)
  have := bits_of_lt h.a0 this
  have := h.n0
  omega
/-- no bit put at the end: an even number of bits -/
theorem even {v : Int} (hv : v = n / 2) (h2 : n % 2 = 0) : N21 v (2 ^ v.toNat) a b ∧ (2 : Int) ^ n.toNat = 2 ^ v.toNat * 2 ^ v.toNat := by
  have h0 := h.n0
  have h1 := h.n1
  have e : n.toNat = v.toNat + v.toNat := by omega
  have e2 : (2 : Int) ^ n.toNat = 2 ^ v.toNat * 2 ^ v.toNat := by rw [e, Int.pow_add]
  refine ⟨⟨rfl, by omega, by omega, h.a0, by rw [← e2]; exact h.lt, ?_, by rw [← e2]; exact h.bound⟩, e2⟩
  have h5 := h.low
  rw [e2] at h5
  have h6 : (2 : Int) ≤ 2 ^ v.toNat := by
    have : v.toNat = (v.toNat - 1) + 1 := by omega
    rw [this, Int.pow_succ]
    have := p2_pos (v.toNat - 1)
    omega
  have h7 : 2 * (2 : Int) ^ v.toNat ≤ 2 ^ v.toNat * 2 ^ v.toNat := Int.mul_le_mul_of_nonneg_right h6 (by omega)
  omega
/-- a bit put at the end -/
theorem odd {v a' b' n' : Int} (ha : a' = a * 2) (hb : b' = b * 2) (hn' : n' = n + 1) (hv : v = n' / 2) (h2 : ¬ n % 2 = 0) : N21 v (2 ^ v.toNat) a' b' ∧ (2 : Int) ^ n'.toNat = 2 ^ v.toNat * 2 ^ v.toNat := by
  have h0 := h.n0
  have h1 := h.n1
  have e : n'.toNat = v.toNat + v.toNat := by omega
  have e2 : (2 : Int) ^ n'.toNat = 2 ^ v.toNat * 2 ^ v.toNat := by rw [e, Int.pow_add]
  have e3 : (2 : Int) ^ n'.toNat = 2 ^ n.toNat * 2 := by
    rw [← Int.pow_succ]; congr 1; omega
  have h4 := h.a0
  have h8 := h.bound
  have h9 := h.lt
  have h10 := p2_pos n.toNat
  refine ⟨⟨rfl, by omega, by omega, by omega, ?_, ?_, by rw [← e2]; omega⟩, e2⟩
  · rw [← e2, e3, ha, hb]
    have x1 : b * 2 * (2 ^ n.toNat * 2) = (b * 2 ^ n.toNat) * 2 * 2 := by
      rw [← Int.mul_assoc, Int.mul_assoc b, Int.mul_comm 2 (2 ^ n.toNat), ← Int.mul_assoc b]
    rw [x1]
    omega
  · have h5 := h.low
    rw [ge_iff_le, Int.mul_comm 2 b, ← hb] at h5
    rw [e3] at e2
    have h6 : (2 : Int) ≤ 2 ^ v.toNat := by
      have : v.toNat = (v.toNat - 1) + 1 := by omega
      rw [this, Int.pow_succ]
      have := p2_pos (v.toNat - 1)
      omega
    have h7 : 2 * (2 : Int) ^ v.toNat ≤ 2 ^ v.toNat * 2 ^ v.toNat := Int.mul_le_mul_of_nonneg_right h6 (by omega)
    omega
end D21
theorem twice {a b a' b' r : Int} (hb : 0 < b) (ha : a' = a * 2) (hb' : b' = b * 2) (hr : r = a'.fmod b' / 2) : a'.fdiv b' = a.fdiv b ∧ r = a.fmod b := by
  have k1 := Int.fmod_nonneg_of_pos a hb
  have k2 := Int.fmod_lt_of_pos a hb
  have k3 := Int.mul_fdiv_add_fmod a b
  have := div_unique (a := a') (b := b') (q := a.fdiv b) (r := a.fmod b * 2) (by omega) (by
    rw [hb', ha, ← Int.mul_assoc, ← Int.add_mul, Int.mul_comm _ b, k3]) (by omega) (by omega)
  exact ⟨this.1, by rw [hr, this.2]; omega⟩
end
end
section
open PySem PySem.W PyProof.Rows
set_option Elab.async false
set_option maxRecDepth 100000
set_option maxHeartbeats 8000000
local macro_rules | `(tactic| walk_at "binaryOp LShift int int") => `(tactic| (k_here; refine mark_of ?_))
local macro_rules | `(tactic| walk_at "binaryOp RShift int int") => `(tactic| (k_here; refine mark_of ?_))
local macro_rules | `(tactic| walk_at "binaryOp BitOr int int") => `(tactic| (k_here; refine mark_of ?_))
local macro_rules | `(tactic| walk_at "binaryOp BitAnd int int") => `(tactic| (k_here; refine mark_of ?_))
local macro_rules | `(tactic| walk_at "inplaceOp LShift int int") => `(tactic| (k_here; refine mark_of ?_))
local macro_rules | `(tactic| walk_at "inplaceOp RShift int int") => `(tactic| (k_here; refine mark_of ?_))
theorem pairOf.mk' {x y x' y' : Int} {t t' : Tok} (hx : x' = x) (hy : y' = y) : pairOf x y { cls := .type "tuple", data := .seq #[.int x' t, .int y' t'] } := ⟨t, t', by rw [hx, hy]⟩
theorem News.drop3 {h₀ h : Heap} {L : Addr} {x y z : Addr × Obj} {l : List (Addr × Obj)} (N : News h₀ L h (x :: y :: z :: l)) : News h₀ L h (x :: l) := (News.drop2 (News.drop2 N))
theorem News.drop4 {h₀ h : Heap} {L : Addr} {x y z u : Addr × Obj} {l : List (Addr × Obj)} (N : News h₀ L h (x :: y :: z :: u :: l)) : News h₀ L h (x :: l) := (News.drop2 (News.drop3 N))
theorem d21_c {w : World} {loose : List Str} {mean : ExcName → Option Value} {mg mb : Str → Option Value} (a b n : Int) (t1 t2 t3 : Tok) :
    ConO w loose mean mg mb 37 520 4000 (fun news => D21 a b n) [.int a t1, .int b t2, .int n t3] [] (pairOf (a.fdiv b) (a.fmod b)) := by
  refine ConO.intro ?_
  k_fill
  intros
  rename_i hp hret
  (try dsimp only at hret)
  (try dsimp only at hp)
  refine wpAny_call ?_
  k_dflt cell_enter
  k_with_none
  w_strict (repeat' (first | (k_unfold; (try dsimp only)) | (with_reducible (k_here; (with_reducible show wpAny _ _ (call (Value.ref 44) [Value.int _ _, Value.int _ _, Value.int _ _, Value.int _ _, Value.int _ _, Value.int _ _]) _ _ _); k_dflt ( refine' (d32_c _ _ _ _ _ _ _ _ _ _ _ _ _ ).use ?k1 ?k2 ?k3 ?k4 ?k5 ?kK ?kp ?kd ?ku ?_; (case k1 => k_asm); (case k2 => k_asm); (case k3 => k_asm); (case k4 => k_asm); (case k5 => k_asm); (case kK => first | exact rfl | assumption); (case kp => assumption); (case kd => exact Nat.le_of_ble_eq_true rfl); (case ku => exact Nat.le_of_ble_eq_true rfl); intro x9qi o9qi h9qi tk9qi g9qi F9qi N9qi O9qi; (obtain ⟨q9qi, r9qi, e9qi⟩ := g9qi; subst e9qi); (try dsimp only); (try k_fold)))) | (with_reducible (k_here; (with_reducible show wpAny _ _ (storeName _ _ _) _ _ _); k_dflt ((first | refine' stI ?F ?N ?_ ?a ?b | refine' stS ?F ?N ?_ ?a ?b | refine' stA ?F ?N ?_ ?a ?b); (case F => k_asm); (case N => k_asm); (case a => exact Eq.refl ScopeKind.function); (case b => exact Eq.refl (some NameKind.local)); k_whole; intro hqi tqi uqi Fqi Nqi; (try k_sweep)))) | (with_reducible (k_here; (with_reducible show wpAny _ _ (eval (Expr.Name _ _) _) _ _ _); k_dflt (refine' nameX_L ?F ?v ?_ ?a ?b ?d; (case F => k_asm); (case a => exact Eq.refl ScopeKind.function); (case b => exact Eq.refl (some NameKind.local)); (case d => exact Eq.refl false); (case v => exact Eq.refl (some _)); k_whole))) | (k_end; wrow_close) | walk1 | (dsimp only; walk1) | (leave1; walk_say "STEP leave1"; try dsimp only)))
  · all_goals (with_reducible rename News _ _ _ _ => kN; with_reducible rename Fr _ _ _ _ => kF)
    have kO := off1_size kN
    obtain ⟨p1, p2, p3⟩ := hp.base (by assumption)
    refine divmod_N kF kN p1 ?_ ?_
    rotate_left
    exact Or.inl (PyProof.noPylong_of_log2 p3)
    intro h5 F5 N5
    w_strict (repeat' (first | (k_unfold; (try dsimp only)) | (with_reducible (k_here; (with_reducible show wpAny _ _ (call (Value.ref 44) [Value.int _ _, Value.int _ _, Value.int _ _, Value.int _ _, Value.int _ _, Value.int _ _]) _ _ _); k_dflt ( refine' (d32_c _ _ _ _ _ _ _ _ _ _ _ _ _ ).use ?k1 ?k2 ?k3 ?k4 ?k5 ?kK ?kp ?kd ?ku ?_; (case k1 => k_asm); (case k2 => k_asm); (case k3 => k_asm); (case k4 => k_asm); (case k5 => k_asm); (case kK => first | exact rfl | assumption); (case kp => assumption); (case kd => exact Nat.le_of_ble_eq_true rfl); (case ku => exact Nat.le_of_ble_eq_true rfl); intro x9qi o9qi h9qi tk9qi g9qi F9qi N9qi O9qi; (obtain ⟨q9qi, r9qi, e9qi⟩ := g9qi; subst e9qi); (try dsimp only); (try k_fold)))) | (with_reducible (k_here; (with_reducible show wpAny _ _ (storeName _ _ _) _ _ _); k_dflt ((first | refine' stI ?F ?N ?_ ?a ?b | refine' stS ?F ?N ?_ ?a ?b | refine' stA ?F ?N ?_ ?a ?b); (case F => k_asm); (case N => k_asm); (case a => exact Eq.refl ScopeKind.function); (case b => exact Eq.refl (some NameKind.local)); k_whole; intro hqi tqi uqi Fqi Nqi; (try k_sweep)))) | (with_reducible (k_here; (with_reducible show wpAny _ _ (eval (Expr.Name _ _) _) _ _ _); k_dflt (refine' nameX_L ?F ?v ?_ ?a ?b ?d; (case F => k_asm); (case a => exact Eq.refl ScopeKind.function); (case b => exact Eq.refl (some NameKind.local)); (case d => exact Eq.refl false); (case v => exact Eq.refl (some _)); k_whole))) | (k_end; wrow_close) | walk1 | (dsimp only; walk1) | (leave1; walk_say "STEP leave1"; try dsimp only)))
    exact hret _ _ _ _ ⟨_, _, rfl⟩ (by k_asm) (by k_asm) kO
  refine mark_in (band ?_)
  intro pd hpd
  rw [bitAnd_m1] at hpd
  have hbig := hp.big (by assumption)
  w_strict (repeat' (first | (k_unfold; (try dsimp only)) | (with_reducible (k_here; (with_reducible show wpAny _ _ (call (Value.ref 44) [Value.int _ _, Value.int _ _, Value.int _ _, Value.int _ _, Value.int _ _, Value.int _ _]) _ _ _); k_dflt ( refine' (d32_c _ _ _ _ _ _ _ _ _ _ _ _ _ ).use ?k1 ?k2 ?k3 ?k4 ?k5 ?kK ?kp ?kd ?ku ?_; (case k1 => k_asm); (case k2 => k_asm); (case k3 => k_asm); (case k4 => k_asm); (case k5 => k_asm); (case kK => first | exact rfl | assumption); (case kp => assumption); (case kd => exact Nat.le_of_ble_eq_true rfl); (case ku => exact Nat.le_of_ble_eq_true rfl); intro x9qi o9qi h9qi tk9qi g9qi F9qi N9qi O9qi; (obtain ⟨q9qi, r9qi, e9qi⟩ := g9qi; subst e9qi); (try dsimp only); (try k_fold)))) | (with_reducible (k_here; (with_reducible show wpAny _ _ (storeName _ _ _) _ _ _); k_dflt ((first | refine' stI ?F ?N ?_ ?a ?b | refine' stS ?F ?N ?_ ?a ?b | refine' stA ?F ?N ?_ ?a ?b); (case F => k_asm); (case N => k_asm); (case a => exact Eq.refl ScopeKind.function); (case b => exact Eq.refl (some NameKind.local)); k_whole; intro hqi tqi uqi Fqi Nqi; (try k_sweep)))) | (with_reducible (k_here; (with_reducible show wpAny _ _ (eval (Expr.Name _ _) _) _ _ _); k_dflt (refine' nameX_L ?F ?v ?_ ?a ?b ?d; (case F => k_asm); (case a => exact Eq.refl ScopeKind.function); (case b => exact Eq.refl (some NameKind.local)); (case d => exact Eq.refl false); (case v => exact Eq.refl (some _)); k_whole))) | (k_end; wrow_close) | walk1 | (dsimp only; walk1) | (leave1; walk_say "STEP leave1"; try dsimp only)))
  · refine mark_in (bishl (p := 2) rfl (by decide) 8400 hp.bitsa (by decide) ?_)
    intro a' ha'
    w_strict (repeat' (first | (k_unfold; (try dsimp only)) | (with_reducible (k_here; (with_reducible show wpAny _ _ (call (Value.ref 44) [Value.int _ _, Value.int _ _, Value.int _ _, Value.int _ _, Value.int _ _, Value.int _ _]) _ _ _); k_dflt ( refine' (d32_c _ _ _ _ _ _ _ _ _ _ _ _ _ ).use ?k1 ?k2 ?k3 ?k4 ?k5 ?kK ?kp ?kd ?ku ?_; (case k1 => k_asm); (case k2 => k_asm); (case k3 => k_asm); (case k4 => k_asm); (case k5 => k_asm); (case kK => first | exact rfl | assumption); (case kp => assumption); (case kd => exact Nat.le_of_ble_eq_true rfl); (case ku => exact Nat.le_of_ble_eq_true rfl); intro x9qi o9qi h9qi tk9qi g9qi F9qi N9qi O9qi; (obtain ⟨q9qi, r9qi, e9qi⟩ := g9qi; subst e9qi); (try dsimp only); (try k_fold)))) | (with_reducible (k_here; (with_reducible show wpAny _ _ (storeName _ _ _) _ _ _); k_dflt ((first | refine' stI ?F ?N ?_ ?a ?b | refine' stS ?F ?N ?_ ?a ?b | refine' stA ?F ?N ?_ ?a ?b); (case F => k_asm); (case N => k_asm); (case a => exact Eq.refl ScopeKind.function); (case b => exact Eq.refl (some NameKind.local)); k_whole; intro hqi tqi uqi Fqi Nqi; (try k_sweep)))) | (with_reducible (k_here; (with_reducible show wpAny _ _ (eval (Expr.Name _ _) _) _ _ _); k_dflt (refine' nameX_L ?F ?v ?_ ?a ?b ?d; (case F => k_asm); (case a => exact Eq.refl ScopeKind.function); (case b => exact Eq.refl (some NameKind.local)); (case d => exact Eq.refl false); (case v => exact Eq.refl (some _)); k_whole))) | (k_end; wrow_close) | walk1 | (dsimp only; walk1) | (leave1; walk_say "STEP leave1"; try dsimp only)))
    refine mark_in (bishl (p := 2) rfl (by decide) 4200 hp.bitsb (by decide) ?_)
    intro b' hb'
    w_strict (repeat' (first | (k_unfold; (try dsimp only)) | (with_reducible (k_here; (with_reducible show wpAny _ _ (call (Value.ref 44) [Value.int _ _, Value.int _ _, Value.int _ _, Value.int _ _, Value.int _ _, Value.int _ _]) _ _ _); k_dflt ( refine' (d32_c _ _ _ _ _ _ _ _ _ _ _ _ _ ).use ?k1 ?k2 ?k3 ?k4 ?k5 ?kK ?kp ?kd ?ku ?_; (case k1 => k_asm); (case k2 => k_asm); (case k3 => k_asm); (case k4 => k_asm); (case k5 => k_asm); (case kK => first | exact rfl | assumption); (case kp => assumption); (case kd => exact Nat.le_of_ble_eq_true rfl); (case ku => exact Nat.le_of_ble_eq_true rfl); intro x9qi o9qi h9qi tk9qi g9qi F9qi N9qi O9qi; (obtain ⟨q9qi, r9qi, e9qi⟩ := g9qi; subst e9qi); (try dsimp only); (try k_fold)))) | (with_reducible (k_here; (with_reducible show wpAny _ _ (storeName _ _ _) _ _ _); k_dflt ((first | refine' stI ?F ?N ?_ ?a ?b | refine' stS ?F ?N ?_ ?a ?b | refine' stA ?F ?N ?_ ?a ?b); (case F => k_asm); (case N => k_asm); (case a => exact Eq.refl ScopeKind.function); (case b => exact Eq.refl (some NameKind.local)); k_whole; intro hqi tqi uqi Fqi Nqi; (try k_sweep)))) | (with_reducible (k_here; (with_reducible show wpAny _ _ (eval (Expr.Name _ _) _) _ _ _); k_dflt (refine' nameX_L ?F ?v ?_ ?a ?b ?d; (case F => k_asm); (case a => exact Eq.refl ScopeKind.function); (case b => exact Eq.refl (some NameKind.local)); (case d => exact Eq.refl false); (case v => exact Eq.refl (some _)); k_whole))) | (k_end; wrow_close) | walk1 | (dsimp only; walk1) | (leave1; walk_say "STEP leave1"; try dsimp only)))
    refine mark_in (bshr (p := 2) rfl (by decide) ?_)
    intro hf hhf
    obtain ⟨hN, hP⟩ := hp.odd ha' hb' rfl hhf (by omega)
    w_strict (repeat' (first | (k_unfold; (try dsimp only)) | (with_reducible (k_here; (with_reducible show wpAny _ _ (call (Value.ref 44) [Value.int _ _, Value.int _ _, Value.int _ _, Value.int _ _, Value.int _ _, Value.int _ _]) _ _ _); k_dflt ( refine' (d32_c _ _ _ _ _ _ _ _ _ _ _ _ _ ).use ?k1 ?k2 ?k3 ?k4 ?k5 ?kK ?kp ?kd ?ku ?_; (case k1 => k_asm); (case k2 => k_asm); (case k3 => k_asm); (case k4 => k_asm); (case k5 => k_asm); (case kK => first | exact rfl | assumption); (case kp => assumption); (case kd => exact Nat.le_of_ble_eq_true rfl); (case ku => exact Nat.le_of_ble_eq_true rfl); intro x9qi o9qi h9qi tk9qi g9qi F9qi N9qi O9qi; (obtain ⟨q9qi, r9qi, e9qi⟩ := g9qi; subst e9qi); (try dsimp only); (try k_fold)))) | (with_reducible (k_here; (with_reducible show wpAny _ _ (storeName _ _ _) _ _ _); k_dflt ((first | refine' stI ?F ?N ?_ ?a ?b | refine' stS ?F ?N ?_ ?a ?b | refine' stA ?F ?N ?_ ?a ?b); (case F => k_asm); (case N => k_asm); (case a => exact Eq.refl ScopeKind.function); (case b => exact Eq.refl (some NameKind.local)); k_whole; intro hqi tqi uqi Fqi Nqi; (try k_sweep)))) | (with_reducible (k_here; (with_reducible show wpAny _ _ (eval (Expr.Name _ _) _) _ _ _); k_dflt (refine' nameX_L ?F ?v ?_ ?a ?b ?d; (case F => k_asm); (case a => exact Eq.refl ScopeKind.function); (case b => exact Eq.refl (some NameKind.local)); (case d => exact Eq.refl false); (case v => exact Eq.refl (some _)); k_whole))) | (k_end; wrow_close) | walk1 | (dsimp only; walk1) | (leave1; walk_say "STEP leave1"; try dsimp only)))
    refine mark_in (bshl (p := 2 ^ hf.toNat) rfl hN.n0 64 (by decide) (by have := hN.nn; omega) ?_)
    intro mk hmk
    try dsimp only
    w_strict (repeat' (first | (k_unfold; (try dsimp only)) | (with_reducible (k_here; (with_reducible show wpAny _ _ (call (Value.ref 44) [Value.int _ _, Value.int _ _, Value.int _ _, Value.int _ _, Value.int _ _, Value.int _ _]) _ _ _); k_dflt ( refine' (d32_c _ _ _ _ _ _ _ _ _ _ _ _ _ ).use ?k1 ?k2 ?k3 ?k4 ?k5 ?kK ?kp ?kd ?ku ?_; (case k1 => k_asm); (case k2 => k_asm); (case k3 => k_asm); (case k4 => k_asm); (case k5 => k_asm); (case kK => first | exact rfl | assumption); (case kp => assumption); (case kd => exact Nat.le_of_ble_eq_true rfl); (case ku => exact Nat.le_of_ble_eq_true rfl); intro x9qi o9qi h9qi tk9qi g9qi F9qi N9qi O9qi; (obtain ⟨q9qi, r9qi, e9qi⟩ := g9qi; subst e9qi); (try dsimp only); (try k_fold)))) | (with_reducible (k_here; (with_reducible show wpAny _ _ (storeName _ _ _) _ _ _); k_dflt ((first | refine' stI ?F ?N ?_ ?a ?b | refine' stS ?F ?N ?_ ?a ?b | refine' stA ?F ?N ?_ ?a ?b); (case F => k_asm); (case N => k_asm); (case a => exact Eq.refl ScopeKind.function); (case b => exact Eq.refl (some NameKind.local)); k_whole; intro hqi tqi uqi Fqi Nqi; (try k_sweep)))) | (with_reducible (k_here; (with_reducible show wpAny _ _ (eval (Expr.Name _ _) _) _ _ _); k_dflt (refine' nameX_L ?F ?v ?_ ?a ?b ?d; (case F => k_asm); (case a => exact Eq.refl ScopeKind.function); (case b => exact Eq.refl (some NameKind.local)); (case d => exact Eq.refl false); (case v => exact Eq.refl (some _)); k_whole))) | (k_end; wrow_close) | walk1 | (dsimp only; walk1) | (leave1; walk_say "STEP leave1"; try dsimp only)))
    refine mark_in (bshr (p := 2 ^ hf.toNat) rfl hN.n0 ?_)
    intro v5 hv5
    try dsimp only
    w_strict (repeat' (first | (k_unfold; (try dsimp only)) | (with_reducible (k_here; (with_reducible show wpAny _ _ (call (Value.ref 44) [Value.int _ _, Value.int _ _, Value.int _ _, Value.int _ _, Value.int _ _, Value.int _ _]) _ _ _); k_dflt ( refine' (d32_c _ _ _ _ _ _ _ _ _ _ _ _ _ ).use ?k1 ?k2 ?k3 ?k4 ?k5 ?kK ?kp ?kd ?ku ?_; (case k1 => k_asm); (case k2 => k_asm); (case k3 => k_asm); (case k4 => k_asm); (case k5 => k_asm); (case kK => first | exact rfl | assumption); (case kp => assumption); (case kd => exact Nat.le_of_ble_eq_true rfl); (case ku => exact Nat.le_of_ble_eq_true rfl); intro x9qi o9qi h9qi tk9qi g9qi F9qi N9qi O9qi; (obtain ⟨q9qi, r9qi, e9qi⟩ := g9qi; subst e9qi); (try dsimp only); (try k_fold)))) | (with_reducible (k_here; (with_reducible show wpAny _ _ (storeName _ _ _) _ _ _); k_dflt ((first | refine' stI ?F ?N ?_ ?a ?b | refine' stS ?F ?N ?_ ?a ?b | refine' stA ?F ?N ?_ ?a ?b); (case F => k_asm); (case N => k_asm); (case a => exact Eq.refl ScopeKind.function); (case b => exact Eq.refl (some NameKind.local)); k_whole; intro hqi tqi uqi Fqi Nqi; (try k_sweep)))) | (with_reducible (k_here; (with_reducible show wpAny _ _ (eval (Expr.Name _ _) _) _ _ _); k_dflt (refine' nameX_L ?F ?v ?_ ?a ?b ?d; (case F => k_asm); (case a => exact Eq.refl ScopeKind.function); (case b => exact Eq.refl (some NameKind.local)); (case d => exact Eq.refl false); (case v => exact Eq.refl (some _)); k_whole))) | (k_end; wrow_close) | walk1 | (dsimp only; walk1) | (leave1; walk_say "STEP leave1"; try dsimp only)))
    refine mark_in (band ?_)
    intro v6 hv6'
    have hv6 := hN.mask hmk hv6' (Int.le_of_lt hN.b0)
    try dsimp only
    w_strict (repeat' (first | (k_unfold; (try dsimp only)) | (with_reducible (k_here; (with_reducible show wpAny _ _ (call (Value.ref 44) [Value.int _ _, Value.int _ _, Value.int _ _, Value.int _ _, Value.int _ _, Value.int _ _]) _ _ _); k_dflt ( refine' (d32_c _ _ _ _ _ _ _ _ _ _ _ _ _ ).use ?k1 ?k2 ?k3 ?k4 ?k5 ?kK ?kp ?kd ?ku ?_; (case k1 => k_asm); (case k2 => k_asm); (case k3 => k_asm); (case k4 => k_asm); (case k5 => k_asm); (case kK => first | exact rfl | assumption); (case kp => assumption); (case kd => exact Nat.le_of_ble_eq_true rfl); (case ku => exact Nat.le_of_ble_eq_true rfl); intro x9qi o9qi h9qi tk9qi g9qi F9qi N9qi O9qi; (obtain ⟨q9qi, r9qi, e9qi⟩ := g9qi; subst e9qi); (try dsimp only); (try k_fold)))) | (with_reducible (k_here; (with_reducible show wpAny _ _ (storeName _ _ _) _ _ _); k_dflt ((first | refine' stI ?F ?N ?_ ?a ?b | refine' stS ?F ?N ?_ ?a ?b | refine' stA ?F ?N ?_ ?a ?b); (case F => k_asm); (case N => k_asm); (case a => exact Eq.refl ScopeKind.function); (case b => exact Eq.refl (some NameKind.local)); k_whole; intro hqi tqi uqi Fqi Nqi; (try k_sweep)))) | (with_reducible (k_here; (with_reducible show wpAny _ _ (eval (Expr.Name _ _) _) _ _ _); k_dflt (refine' nameX_L ?F ?v ?_ ?a ?b ?d; (case F => k_asm); (case a => exact Eq.refl ScopeKind.function); (case b => exact Eq.refl (some NameKind.local)); (case d => exact Eq.refl false); (case v => exact Eq.refl (some _)); k_whole))) | (k_end; wrow_close) | walk1 | (dsimp only; walk1) | (leave1; walk_say "STEP leave1"; try dsimp only)))
    refine mark_in (bshr (p := 2 ^ Int.toNat (n + 1)) rfl (by omega) ?_)
    intro v7 hv7
    try dsimp only
    w_strict (repeat' (first | (k_unfold; (try dsimp only)) | (with_reducible (k_here; (with_reducible show wpAny _ _ (call (Value.ref 44) [Value.int _ _, Value.int _ _, Value.int _ _, Value.int _ _, Value.int _ _, Value.int _ _]) _ _ _); k_dflt ( refine' (d32_c _ _ _ _ _ _ _ _ _ _ _ _ _ ).use ?k1 ?k2 ?k3 ?k4 ?k5 ?kK ?kp ?kd ?ku ?_; (case k1 => k_asm); (case k2 => k_asm); (case k3 => k_asm); (case k4 => k_asm); (case k5 => k_asm); (case kK => first | exact rfl | assumption); (case kp => assumption); (case kd => exact Nat.le_of_ble_eq_true rfl); (case ku => exact Nat.le_of_ble_eq_true rfl); intro x9qi o9qi h9qi tk9qi g9qi F9qi N9qi O9qi; (obtain ⟨q9qi, r9qi, e9qi⟩ := g9qi; subst e9qi); (try dsimp only); (try k_fold)))) | (with_reducible (k_here; (with_reducible show wpAny _ _ (storeName _ _ _) _ _ _); k_dflt ((first | refine' stI ?F ?N ?_ ?a ?b | refine' stS ?F ?N ?_ ?a ?b | refine' stA ?F ?N ?_ ?a ?b); (case F => k_asm); (case N => k_asm); (case a => exact Eq.refl ScopeKind.function); (case b => exact Eq.refl (some NameKind.local)); k_whole; intro hqi tqi uqi Fqi Nqi; (try k_sweep)))) | (with_reducible (k_here; (with_reducible show wpAny _ _ (eval (Expr.Name _ _) _) _ _ _); k_dflt (refine' nameX_L ?F ?v ?_ ?a ?b ?d; (case F => k_asm); (case a => exact Eq.refl ScopeKind.function); (case b => exact Eq.refl (some NameKind.local)); (case d => exact Eq.refl false); (case v => exact Eq.refl (some _)); k_whole))) | (k_end; wrow_close) | walk1 | (dsimp only; walk1) | (leave1; walk_say "STEP leave1"; try dsimp only)))
    refine mark_in (bshr (p := 2 ^ hf.toNat) rfl hN.n0 ?_)
    intro v8' hv8''
    try dsimp only
    w_strict (repeat' (first | (k_unfold; (try dsimp only)) | (with_reducible (k_here; (with_reducible show wpAny _ _ (call (Value.ref 44) [Value.int _ _, Value.int _ _, Value.int _ _, Value.int _ _, Value.int _ _, Value.int _ _]) _ _ _); k_dflt ( refine' (d32_c _ _ _ _ _ _ _ _ _ _ _ _ _ ).use ?k1 ?k2 ?k3 ?k4 ?k5 ?kK ?kp ?kd ?ku ?_; (case k1 => k_asm); (case k2 => k_asm); (case k3 => k_asm); (case k4 => k_asm); (case k5 => k_asm); (case kK => first | exact rfl | assumption); (case kp => assumption); (case kd => exact Nat.le_of_ble_eq_true rfl); (case ku => exact Nat.le_of_ble_eq_true rfl); intro x9qi o9qi h9qi tk9qi g9qi F9qi N9qi O9qi; (obtain ⟨q9qi, r9qi, e9qi⟩ := g9qi; subst e9qi); (try dsimp only); (try k_fold)))) | (with_reducible (k_here; (with_reducible show wpAny _ _ (storeName _ _ _) _ _ _); k_dflt ((first | refine' stI ?F ?N ?_ ?a ?b | refine' stS ?F ?N ?_ ?a ?b | refine' stA ?F ?N ?_ ?a ?b); (case F => k_asm); (case N => k_asm); (case a => exact Eq.refl ScopeKind.function); (case b => exact Eq.refl (some NameKind.local)); k_whole; intro hqi tqi uqi Fqi Nqi; (try k_sweep)))) | (with_reducible (k_here; (with_reducible show wpAny _ _ (eval (Expr.Name _ _) _) _ _ _); k_dflt (refine' nameX_L ?F ?v ?_ ?a ?b ?d; (case F => k_asm); (case a => exact Eq.refl ScopeKind.function); (case b => exact Eq.refl (some NameKind.local)); (case d => exact Eq.refl false); (case v => exact Eq.refl (some _)); k_whole))) | (k_end; wrow_close) | walk1 | (dsimp only; walk1) | (leave1; walk_say "STEP leave1"; try dsimp only)))
    refine mark_in (band ?_)
    intro v8 hv8'
    have hv8 := hN.mask hmk hv8' (by rw [hv8'']; exact Int.ediv_nonneg hN.a0 (Int.le_of_lt hN.p0))
    rw [hv8''] at hv8
    have hD1 := hN.first hv5 hv6 hv7 hP hv8
    try dsimp only
    w_strict (repeat' (first | (k_unfold; (try dsimp only)) | (with_reducible (k_here; (with_reducible show wpAny _ _ (call (Value.ref 44) [Value.int _ _, Value.int _ _, Value.int _ _, Value.int _ _, Value.int _ _, Value.int _ _]) _ _ _); k_dflt ( refine' (d32_c _ _ _ _ _ _ _ _ _ _ _ _ _ ).use ?k1 ?k2 ?k3 ?k4 ?k5 ?kK ?kp ?kd ?ku ?_; (case k1 => k_asm); (case k2 => k_asm); (case k3 => k_asm); (case k4 => k_asm); (case k5 => k_asm); (case kK => first | exact rfl | assumption); (case kp => assumption); (case kd => exact Nat.le_of_ble_eq_true rfl); (case ku => exact Nat.le_of_ble_eq_true rfl); intro x9qi o9qi h9qi tk9qi g9qi F9qi N9qi O9qi; (obtain ⟨q9qi, r9qi, e9qi⟩ := g9qi; subst e9qi); (try dsimp only); (try k_fold)))) | (with_reducible (k_here; (with_reducible show wpAny _ _ (storeName _ _ _) _ _ _); k_dflt ((first | refine' stI ?F ?N ?_ ?a ?b | refine' stS ?F ?N ?_ ?a ?b | refine' stA ?F ?N ?_ ?a ?b); (case F => k_asm); (case N => k_asm); (case a => exact Eq.refl ScopeKind.function); (case b => exact Eq.refl (some NameKind.local)); k_whole; intro hqi tqi uqi Fqi Nqi; (try k_sweep)))) | (with_reducible (k_here; (with_reducible show wpAny _ _ (eval (Expr.Name _ _) _) _ _ _); k_dflt (refine' nameX_L ?F ?v ?_ ?a ?b ?d; (case F => k_asm); (case a => exact Eq.refl ScopeKind.function); (case b => exact Eq.refl (some NameKind.local)); (case d => exact Eq.refl false); (case v => exact Eq.refl (some _)); k_whole))) | (k_end; wrow_close) | walk1 | (dsimp only; walk1) | (leave1; walk_say "STEP leave1"; try dsimp only)))
    refine mark_in (band ?_)
    intro v9 hv9'
    have hv9 := hN.mask hmk hv9' hN.a0
    have hD2 := hN.second hv5 hv6 hv7 hP hv8 hv9
    try dsimp only
    w_strict (repeat' (first | (k_unfold; (try dsimp only)) | (with_reducible (k_here; (with_reducible show wpAny _ _ (call (Value.ref 44) [Value.int _ _, Value.int _ _, Value.int _ _, Value.int _ _, Value.int _ _, Value.int _ _]) _ _ _); k_dflt ( refine' (d32_c _ _ _ _ _ _ _ _ _ _ _ _ _ ).use ?k1 ?k2 ?k3 ?k4 ?k5 ?kK ?kp ?kd ?ku ?_; (case k1 => k_asm); (case k2 => k_asm); (case k3 => k_asm); (case k4 => k_asm); (case k5 => k_asm); (case kK => first | exact rfl | assumption); (case kp => assumption); (case kd => exact Nat.le_of_ble_eq_true rfl); (case ku => exact Nat.le_of_ble_eq_true rfl); intro x9qi o9qi h9qi tk9qi g9qi F9qi N9qi O9qi; (obtain ⟨q9qi, r9qi, e9qi⟩ := g9qi; subst e9qi); (try dsimp only); (try k_fold)))) | (with_reducible (k_here; (with_reducible show wpAny _ _ (storeName _ _ _) _ _ _); k_dflt ((first | refine' stI ?F ?N ?_ ?a ?b | refine' stS ?F ?N ?_ ?a ?b | refine' stA ?F ?N ?_ ?a ?b); (case F => k_asm); (case N => k_asm); (case a => exact Eq.refl ScopeKind.function); (case b => exact Eq.refl (some NameKind.local)); k_whole; intro hqi tqi uqi Fqi Nqi; (try k_sweep)))) | (with_reducible (k_here; (with_reducible show wpAny _ _ (eval (Expr.Name _ _) _) _ _ _); k_dflt (refine' nameX_L ?F ?v ?_ ?a ?b ?d; (case F => k_asm); (case a => exact Eq.refl ScopeKind.function); (case b => exact Eq.refl (some NameKind.local)); (case d => exact Eq.refl false); (case v => exact Eq.refl (some _)); k_whole))) | (k_end; wrow_close) | walk1 | (dsimp only; walk1) | (leave1; walk_say "STEP leave1"; try dsimp only)))
    rotate_left
    exact absurd ‹pd = 0› ‹pd ≠ 0›
    refine mark_in (bishr (p := 2) rfl (by decide) ?_)
    intro v11 hv11
    try dsimp only
    w_strict (repeat' (first | (k_unfold; (try dsimp only)) | (with_reducible (k_here; (with_reducible show wpAny _ _ (call (Value.ref 44) [Value.int _ _, Value.int _ _, Value.int _ _, Value.int _ _, Value.int _ _, Value.int _ _]) _ _ _); k_dflt ( refine' (d32_c _ _ _ _ _ _ _ _ _ _ _ _ _ ).use ?k1 ?k2 ?k3 ?k4 ?k5 ?kK ?kp ?kd ?ku ?_; (case k1 => k_asm); (case k2 => k_asm); (case k3 => k_asm); (case k4 => k_asm); (case k5 => k_asm); (case kK => first | exact rfl | assumption); (case kp => assumption); (case kd => exact Nat.le_of_ble_eq_true rfl); (case ku => exact Nat.le_of_ble_eq_true rfl); intro x9qi o9qi h9qi tk9qi g9qi F9qi N9qi O9qi; (obtain ⟨q9qi, r9qi, e9qi⟩ := g9qi; subst e9qi); (try dsimp only); (try k_fold)))) | (with_reducible (k_here; (with_reducible show wpAny _ _ (storeName _ _ _) _ _ _); k_dflt ((first | refine' stI ?F ?N ?_ ?a ?b | refine' stS ?F ?N ?_ ?a ?b | refine' stA ?F ?N ?_ ?a ?b); (case F => k_asm); (case N => k_asm); (case a => exact Eq.refl ScopeKind.function); (case b => exact Eq.refl (some NameKind.local)); k_whole; intro hqi tqi uqi Fqi Nqi; (try k_sweep)))) | (with_reducible (k_here; (with_reducible show wpAny _ _ (eval (Expr.Name _ _) _) _ _ _); k_dflt (refine' nameX_L ?F ?v ?_ ?a ?b ?d; (case F => k_asm); (case a => exact Eq.refl ScopeKind.function); (case b => exact Eq.refl (some NameKind.local)); (case d => exact Eq.refl false); (case v => exact Eq.refl (some _)); k_whole))) | (k_end; wrow_close) | walk1 | (dsimp only; walk1) | (leave1; walk_say "STEP leave1"; try dsimp only)))
    refine mark_in (bshl (p := 2 ^ hf.toNat) rfl hN.n0 12000 (hN.q1bits hv7 hP hv8) (by have := hN.nn; omega) ?_)
    intro v10 hv10
    try dsimp only
    w_strict (repeat' (first | (k_unfold; (try dsimp only)) | (with_reducible (k_here; (with_reducible show wpAny _ _ (call (Value.ref 44) [Value.int _ _, Value.int _ _, Value.int _ _, Value.int _ _, Value.int _ _, Value.int _ _]) _ _ _); k_dflt ( refine' (d32_c _ _ _ _ _ _ _ _ _ _ _ _ _ ).use ?k1 ?k2 ?k3 ?k4 ?k5 ?kK ?kp ?kd ?ku ?_; (case k1 => k_asm); (case k2 => k_asm); (case k3 => k_asm); (case k4 => k_asm); (case k5 => k_asm); (case kK => first | exact rfl | assumption); (case kp => assumption); (case kd => exact Nat.le_of_ble_eq_true rfl); (case ku => exact Nat.le_of_ble_eq_true rfl); intro x9qi o9qi h9qi tk9qi g9qi F9qi N9qi O9qi; (obtain ⟨q9qi, r9qi, e9qi⟩ := g9qi; subst e9qi); (try dsimp only); (try k_fold)))) | (with_reducible (k_here; (with_reducible show wpAny _ _ (storeName _ _ _) _ _ _); k_dflt ((first | refine' stI ?F ?N ?_ ?a ?b | refine' stS ?F ?N ?_ ?a ?b | refine' stA ?F ?N ?_ ?a ?b); (case F => k_asm); (case N => k_asm); (case a => exact Eq.refl ScopeKind.function); (case b => exact Eq.refl (some NameKind.local)); k_whole; intro hqi tqi uqi Fqi Nqi; (try k_sweep)))) | (with_reducible (k_here; (with_reducible show wpAny _ _ (eval (Expr.Name _ _) _) _ _ _); k_dflt (refine' nameX_L ?F ?v ?_ ?a ?b ?d; (case F => k_asm); (case a => exact Eq.refl ScopeKind.function); (case b => exact Eq.refl (some NameKind.local)); (case d => exact Eq.refl false); (case v => exact Eq.refl (some _)); k_whole))) | (k_end; wrow_close) | walk1 | (dsimp only; walk1) | (leave1; walk_say "STEP leave1"; try dsimp only)))
    refine mark_in (bor ?_)
    intro o ho
    have tt := hN.total hv7 hP hv8 hv9 rfl rfl rfl rfl hv10 ho
    try dsimp only
    w_strict (repeat' (first | (k_unfold; (try dsimp only)) | (with_reducible (k_here; (with_reducible show wpAny _ _ (call (Value.ref 44) [Value.int _ _, Value.int _ _, Value.int _ _, Value.int _ _, Value.int _ _, Value.int _ _]) _ _ _); k_dflt ( refine' (d32_c _ _ _ _ _ _ _ _ _ _ _ _ _ ).use ?k1 ?k2 ?k3 ?k4 ?k5 ?kK ?kp ?kd ?ku ?_; (case k1 => k_asm); (case k2 => k_asm); (case k3 => k_asm); (case k4 => k_asm); (case k5 => k_asm); (case kK => first | exact rfl | assumption); (case kp => assumption); (case kd => exact Nat.le_of_ble_eq_true rfl); (case ku => exact Nat.le_of_ble_eq_true rfl); intro x9qi o9qi h9qi tk9qi g9qi F9qi N9qi O9qi; (obtain ⟨q9qi, r9qi, e9qi⟩ := g9qi; subst e9qi); (try dsimp only); (try k_fold)))) | (with_reducible (k_here; (with_reducible show wpAny _ _ (storeName _ _ _) _ _ _); k_dflt ((first | refine' stI ?F ?N ?_ ?a ?b | refine' stS ?F ?N ?_ ?a ?b | refine' stA ?F ?N ?_ ?a ?b); (case F => k_asm); (case N => k_asm); (case a => exact Eq.refl ScopeKind.function); (case b => exact Eq.refl (some NameKind.local)); k_whole; intro hqi tqi uqi Fqi Nqi; (try k_sweep)))) | (with_reducible (k_here; (with_reducible show wpAny _ _ (eval (Expr.Name _ _) _) _ _ _); k_dflt (refine' nameX_L ?F ?v ?_ ?a ?b ?d; (case F => k_asm); (case a => exact Eq.refl ScopeKind.function); (case b => exact Eq.refl (some NameKind.local)); (case d => exact Eq.refl false); (case v => exact Eq.refl (some _)); k_whole))) | (k_end; wrow_close) | walk1 | (dsimp only; walk1) | (leave1; walk_say "STEP leave1"; try dsimp only)))
    rw [tt.2] at hv11
    obtain ⟨z1, z2⟩ := twice hp.b0 ha' hb' hv11
    refine hret _ _ _ _ (pairOf.mk' (tt.1.trans z1) z2) (by k_asm) (News.drop4 (by k_asm)) (off1_of_allLt (And.right (And.right (And.right (by assumption)))))
  · refine mark_in (bshr (p := 2) rfl (by decide) ?_)
    intro hf hhf
    obtain ⟨hN, hP⟩ := hp.even hhf (by omega)
    w_strict (repeat' (first | (k_unfold; (try dsimp only)) | (with_reducible (k_here; (with_reducible show wpAny _ _ (call (Value.ref 44) [Value.int _ _, Value.int _ _, Value.int _ _, Value.int _ _, Value.int _ _, Value.int _ _]) _ _ _); k_dflt ( refine' (d32_c _ _ _ _ _ _ _ _ _ _ _ _ _ ).use ?k1 ?k2 ?k3 ?k4 ?k5 ?kK ?kp ?kd ?ku ?_; (case k1 => k_asm); (case k2 => k_asm); (case k3 => k_asm); (case k4 => k_asm); (case k5 => k_asm); (case kK => first | exact rfl | assumption); (case kp => assumption); (case kd => exact Nat.le_of_ble_eq_true rfl); (case ku => exact Nat.le_of_ble_eq_true rfl); intro x9qi o9qi h9qi tk9qi g9qi F9qi N9qi O9qi; (obtain ⟨q9qi, r9qi, e9qi⟩ := g9qi; subst e9qi); (try dsimp only); (try k_fold)))) | (with_reducible (k_here; (with_reducible show wpAny _ _ (storeName _ _ _) _ _ _); k_dflt ((first | refine' stI ?F ?N ?_ ?a ?b | refine' stS ?F ?N ?_ ?a ?b | refine' stA ?F ?N ?_ ?a ?b); (case F => k_asm); (case N => k_asm); (case a => exact Eq.refl ScopeKind.function); (case b => exact Eq.refl (some NameKind.local)); k_whole; intro hqi tqi uqi Fqi Nqi; (try k_sweep)))) | (with_reducible (k_here; (with_reducible show wpAny _ _ (eval (Expr.Name _ _) _) _ _ _); k_dflt (refine' nameX_L ?F ?v ?_ ?a ?b ?d; (case F => k_asm); (case a => exact Eq.refl ScopeKind.function); (case b => exact Eq.refl (some NameKind.local)); (case d => exact Eq.refl false); (case v => exact Eq.refl (some _)); k_whole))) | (k_end; wrow_close) | walk1 | (dsimp only; walk1) | (leave1; walk_say "STEP leave1"; try dsimp only)))
    refine mark_in (bshl (p := 2 ^ hf.toNat) rfl hN.n0 64 (by decide) (by have := hN.nn; omega) ?_)
    intro mk hmk
    try dsimp only
    w_strict (repeat' (first | (k_unfold; (try dsimp only)) | (with_reducible (k_here; (with_reducible show wpAny _ _ (call (Value.ref 44) [Value.int _ _, Value.int _ _, Value.int _ _, Value.int _ _, Value.int _ _, Value.int _ _]) _ _ _); k_dflt ( refine' (d32_c _ _ _ _ _ _ _ _ _ _ _ _ _ ).use ?k1 ?k2 ?k3 ?k4 ?k5 ?kK ?kp ?kd ?ku ?_; (case k1 => k_asm); (case k2 => k_asm); (case k3 => k_asm); (case k4 => k_asm); (case k5 => k_asm); (case kK => first | exact rfl | assumption); (case kp => assumption); (case kd => exact Nat.le_of_ble_eq_true rfl); (case ku => exact Nat.le_of_ble_eq_true rfl); intro x9qi o9qi h9qi tk9qi g9qi F9qi N9qi O9qi; (obtain ⟨q9qi, r9qi, e9qi⟩ := g9qi; subst e9qi); (try dsimp only); (try k_fold)))) | (with_reducible (k_here; (with_reducible show wpAny _ _ (storeName _ _ _) _ _ _); k_dflt ((first | refine' stI ?F ?N ?_ ?a ?b | refine' stS ?F ?N ?_ ?a ?b | refine' stA ?F ?N ?_ ?a ?b); (case F => k_asm); (case N => k_asm); (case a => exact Eq.refl ScopeKind.function); (case b => exact Eq.refl (some NameKind.local)); k_whole; intro hqi tqi uqi Fqi Nqi; (try k_sweep)))) | (with_reducible (k_here; (with_reducible show wpAny _ _ (eval (Expr.Name _ _) _) _ _ _); k_dflt (refine' nameX_L ?F ?v ?_ ?a ?b ?d; (case F => k_asm); (case a => exact Eq.refl ScopeKind.function); (case b => exact Eq.refl (some NameKind.local)); (case d => exact Eq.refl false); (case v => exact Eq.refl (some _)); k_whole))) | (k_end; wrow_close) | walk1 | (dsimp only; walk1) | (leave1; walk_say "STEP leave1"; try dsimp only)))
    refine mark_in (bshr (p := 2 ^ hf.toNat) rfl hN.n0 ?_)
    intro v5 hv5
    try dsimp only
    w_strict (repeat' (first | (k_unfold; (try dsimp only)) | (with_reducible (k_here; (with_reducible show wpAny _ _ (call (Value.ref 44) [Value.int _ _, Value.int _ _, Value.int _ _, Value.int _ _, Value.int _ _, Value.int _ _]) _ _ _); k_dflt ( refine' (d32_c _ _ _ _ _ _ _ _ _ _ _ _ _ ).use ?k1 ?k2 ?k3 ?k4 ?k5 ?kK ?kp ?kd ?ku ?_; (case k1 => k_asm); (case k2 => k_asm); (case k3 => k_asm); (case k4 => k_asm); (case k5 => k_asm); (case kK => first | exact rfl | assumption); (case kp => assumption); (case kd => exact Nat.le_of_ble_eq_true rfl); (case ku => exact Nat.le_of_ble_eq_true rfl); intro x9qi o9qi h9qi tk9qi g9qi F9qi N9qi O9qi; (obtain ⟨q9qi, r9qi, e9qi⟩ := g9qi; subst e9qi); (try dsimp only); (try k_fold)))) | (with_reducible (k_here; (with_reducible show wpAny _ _ (storeName _ _ _) _ _ _); k_dflt ((first | refine' stI ?F ?N ?_ ?a ?b | refine' stS ?F ?N ?_ ?a ?b | refine' stA ?F ?N ?_ ?a ?b); (case F => k_asm); (case N => k_asm); (case a => exact Eq.refl ScopeKind.function); (case b => exact Eq.refl (some NameKind.local)); k_whole; intro hqi tqi uqi Fqi Nqi; (try k_sweep)))) | (with_reducible (k_here; (with_reducible show wpAny _ _ (eval (Expr.Name _ _) _) _ _ _); k_dflt (refine' nameX_L ?F ?v ?_ ?a ?b ?d; (case F => k_asm); (case a => exact Eq.refl ScopeKind.function); (case b => exact Eq.refl (some NameKind.local)); (case d => exact Eq.refl false); (case v => exact Eq.refl (some _)); k_whole))) | (k_end; wrow_close) | walk1 | (dsimp only; walk1) | (leave1; walk_say "STEP leave1"; try dsimp only)))
    refine mark_in (band ?_)
    intro v6 hv6'
    have hv6 := hN.mask hmk hv6' (Int.le_of_lt hN.b0)
    try dsimp only
    w_strict (repeat' (first | (k_unfold; (try dsimp only)) | (with_reducible (k_here; (with_reducible show wpAny _ _ (call (Value.ref 44) [Value.int _ _, Value.int _ _, Value.int _ _, Value.int _ _, Value.int _ _, Value.int _ _]) _ _ _); k_dflt ( refine' (d32_c _ _ _ _ _ _ _ _ _ _ _ _ _ ).use ?k1 ?k2 ?k3 ?k4 ?k5 ?kK ?kp ?kd ?ku ?_; (case k1 => k_asm); (case k2 => k_asm); (case k3 => k_asm); (case k4 => k_asm); (case k5 => k_asm); (case kK => first | exact rfl | assumption); (case kp => assumption); (case kd => exact Nat.le_of_ble_eq_true rfl); (case ku => exact Nat.le_of_ble_eq_true rfl); intro x9qi o9qi h9qi tk9qi g9qi F9qi N9qi O9qi; (obtain ⟨q9qi, r9qi, e9qi⟩ := g9qi; subst e9qi); (try dsimp only); (try k_fold)))) | (with_reducible (k_here; (with_reducible show wpAny _ _ (storeName _ _ _) _ _ _); k_dflt ((first | refine' stI ?F ?N ?_ ?a ?b | refine' stS ?F ?N ?_ ?a ?b | refine' stA ?F ?N ?_ ?a ?b); (case F => k_asm); (case N => k_asm); (case a => exact Eq.refl ScopeKind.function); (case b => exact Eq.refl (some NameKind.local)); k_whole; intro hqi tqi uqi Fqi Nqi; (try k_sweep)))) | (with_reducible (k_here; (with_reducible show wpAny _ _ (eval (Expr.Name _ _) _) _ _ _); k_dflt (refine' nameX_L ?F ?v ?_ ?a ?b ?d; (case F => k_asm); (case a => exact Eq.refl ScopeKind.function); (case b => exact Eq.refl (some NameKind.local)); (case d => exact Eq.refl false); (case v => exact Eq.refl (some _)); k_whole))) | (k_end; wrow_close) | walk1 | (dsimp only; walk1) | (leave1; walk_say "STEP leave1"; try dsimp only)))
    refine mark_in (bshr (p := 2 ^ Int.toNat (n)) rfl (by omega) ?_)
    intro v7 hv7
    try dsimp only
    w_strict (repeat' (first | (k_unfold; (try dsimp only)) | (with_reducible (k_here; (with_reducible show wpAny _ _ (call (Value.ref 44) [Value.int _ _, Value.int _ _, Value.int _ _, Value.int _ _, Value.int _ _, Value.int _ _]) _ _ _); k_dflt ( refine' (d32_c _ _ _ _ _ _ _ _ _ _ _ _ _ ).use ?k1 ?k2 ?k3 ?k4 ?k5 ?kK ?kp ?kd ?ku ?_; (case k1 => k_asm); (case k2 => k_asm); (case k3 => k_asm); (case k4 => k_asm); (case k5 => k_asm); (case kK => first | exact rfl | assumption); (case kp => assumption); (case kd => exact Nat.le_of_ble_eq_true rfl); (case ku => exact Nat.le_of_ble_eq_true rfl); intro x9qi o9qi h9qi tk9qi g9qi F9qi N9qi O9qi; (obtain ⟨q9qi, r9qi, e9qi⟩ := g9qi; subst e9qi); (try dsimp only); (try k_fold)))) | (with_reducible (k_here; (with_reducible show wpAny _ _ (storeName _ _ _) _ _ _); k_dflt ((first | refine' stI ?F ?N ?_ ?a ?b | refine' stS ?F ?N ?_ ?a ?b | refine' stA ?F ?N ?_ ?a ?b); (case F => k_asm); (case N => k_asm); (case a => exact Eq.refl ScopeKind.function); (case b => exact Eq.refl (some NameKind.local)); k_whole; intro hqi tqi uqi Fqi Nqi; (try k_sweep)))) | (with_reducible (k_here; (with_reducible show wpAny _ _ (eval (Expr.Name _ _) _) _ _ _); k_dflt (refine' nameX_L ?F ?v ?_ ?a ?b ?d; (case F => k_asm); (case a => exact Eq.refl ScopeKind.function); (case b => exact Eq.refl (some NameKind.local)); (case d => exact Eq.refl false); (case v => exact Eq.refl (some _)); k_whole))) | (k_end; wrow_close) | walk1 | (dsimp only; walk1) | (leave1; walk_say "STEP leave1"; try dsimp only)))
    refine mark_in (bshr (p := 2 ^ hf.toNat) rfl hN.n0 ?_)
    intro v8' hv8''
    try dsimp only
    w_strict (repeat' (first | (k_unfold; (try dsimp only)) | (with_reducible (k_here; (with_reducible show wpAny _ _ (call (Value.ref 44) [Value.int _ _, Value.int _ _, Value.int _ _, Value.int _ _, Value.int _ _, Value.int _ _]) _ _ _); k_dflt ( refine' (d32_c _ _ _ _ _ _ _ _ _ _ _ _ _ ).use ?k1 ?k2 ?k3 ?k4 ?k5 ?kK ?kp ?kd ?ku ?_; (case k1 => k_asm); (case k2 => k_asm); (case k3 => k_asm); (case k4 => k_asm); (case k5 => k_asm); (case kK => first | exact rfl | assumption); (case kp => assumption); (case kd => exact Nat.le_of_ble_eq_true rfl); (case ku => exact Nat.le_of_ble_eq_true rfl); intro x9qi o9qi h9qi tk9qi g9qi F9qi N9qi O9qi; (obtain ⟨q9qi, r9qi, e9qi⟩ := g9qi; subst e9qi); (try dsimp only); (try k_fold)))) | (with_reducible (k_here; (with_reducible show wpAny _ _ (storeName _ _ _) _ _ _); k_dflt ((first | refine' stI ?F ?N ?_ ?a ?b | refine' stS ?F ?N ?_ ?a ?b | refine' stA ?F ?N ?_ ?a ?b); (case F => k_asm); (case N => k_asm); (case a => exact Eq.refl ScopeKind.function); (case b => exact Eq.refl (some NameKind.local)); k_whole; intro hqi tqi uqi Fqi Nqi; (try k_sweep)))) | (with_reducible (k_here; (with_reducible show wpAny _ _ (eval (Expr.Name _ _) _) _ _ _); k_dflt (refine' nameX_L ?F ?v ?_ ?a ?b ?d; (case F => k_asm); (case a => exact Eq.refl ScopeKind.function); (case b => exact Eq.refl (some NameKind.local)); (case d => exact Eq.refl false); (case v => exact Eq.refl (some _)); k_whole))) | (k_end; wrow_close) | walk1 | (dsimp only; walk1) | (leave1; walk_say "STEP leave1"; try dsimp only)))
    refine mark_in (band ?_)
    intro v8 hv8'
    have hv8 := hN.mask hmk hv8' (by rw [hv8'']; exact Int.ediv_nonneg hN.a0 (Int.le_of_lt hN.p0))
    rw [hv8''] at hv8
    have hD1 := hN.first hv5 hv6 hv7 hP hv8
    try dsimp only
    w_strict (repeat' (first | (k_unfold; (try dsimp only)) | (with_reducible (k_here; (with_reducible show wpAny _ _ (call (Value.ref 44) [Value.int _ _, Value.int _ _, Value.int _ _, Value.int _ _, Value.int _ _, Value.int _ _]) _ _ _); k_dflt ( refine' (d32_c _ _ _ _ _ _ _ _ _ _ _ _ _ ).use ?k1 ?k2 ?k3 ?k4 ?k5 ?kK ?kp ?kd ?ku ?_; (case k1 => k_asm); (case k2 => k_asm); (case k3 => k_asm); (case k4 => k_asm); (case k5 => k_asm); (case kK => first | exact rfl | assumption); (case kp => assumption); (case kd => exact Nat.le_of_ble_eq_true rfl); (case ku => exact Nat.le_of_ble_eq_true rfl); intro x9qi o9qi h9qi tk9qi g9qi F9qi N9qi O9qi; (obtain ⟨q9qi, r9qi, e9qi⟩ := g9qi; subst e9qi); (try dsimp only); (try k_fold)))) | (with_reducible (k_here; (with_reducible show wpAny _ _ (storeName _ _ _) _ _ _); k_dflt ((first | refine' stI ?F ?N ?_ ?a ?b | refine' stS ?F ?N ?_ ?a ?b | refine' stA ?F ?N ?_ ?a ?b); (case F => k_asm); (case N => k_asm); (case a => exact Eq.refl ScopeKind.function); (case b => exact Eq.refl (some NameKind.local)); k_whole; intro hqi tqi uqi Fqi Nqi; (try k_sweep)))) | (with_reducible (k_here; (with_reducible show wpAny _ _ (eval (Expr.Name _ _) _) _ _ _); k_dflt (refine' nameX_L ?F ?v ?_ ?a ?b ?d; (case F => k_asm); (case a => exact Eq.refl ScopeKind.function); (case b => exact Eq.refl (some NameKind.local)); (case d => exact Eq.refl false); (case v => exact Eq.refl (some _)); k_whole))) | (k_end; wrow_close) | walk1 | (dsimp only; walk1) | (leave1; walk_say "STEP leave1"; try dsimp only)))
    refine mark_in (band ?_)
    intro v9 hv9'
    have hv9 := hN.mask hmk hv9' hN.a0
    have hD2 := hN.second hv5 hv6 hv7 hP hv8 hv9
    try dsimp only
    w_strict (repeat' (first | (k_unfold; (try dsimp only)) | (with_reducible (k_here; (with_reducible show wpAny _ _ (call (Value.ref 44) [Value.int _ _, Value.int _ _, Value.int _ _, Value.int _ _, Value.int _ _, Value.int _ _]) _ _ _); k_dflt ( refine' (d32_c _ _ _ _ _ _ _ _ _ _ _ _ _ ).use ?k1 ?k2 ?k3 ?k4 ?k5 ?kK ?kp ?kd ?ku ?_; (case k1 => k_asm); (case k2 => k_asm); (case k3 => k_asm); (case k4 => k_asm); (case k5 => k_asm); (case kK => first | exact rfl | assumption); (case kp => assumption); (case kd => exact Nat.le_of_ble_eq_true rfl); (case ku => exact Nat.le_of_ble_eq_true rfl); intro x9qi o9qi h9qi tk9qi g9qi F9qi N9qi O9qi; (obtain ⟨q9qi, r9qi, e9qi⟩ := g9qi; subst e9qi); (try dsimp only); (try k_fold)))) | (with_reducible (k_here; (with_reducible show wpAny _ _ (storeName _ _ _) _ _ _); k_dflt ((first | refine' stI ?F ?N ?_ ?a ?b | refine' stS ?F ?N ?_ ?a ?b | refine' stA ?F ?N ?_ ?a ?b); (case F => k_asm); (case N => k_asm); (case a => exact Eq.refl ScopeKind.function); (case b => exact Eq.refl (some NameKind.local)); k_whole; intro hqi tqi uqi Fqi Nqi; (try k_sweep)))) | (with_reducible (k_here; (with_reducible show wpAny _ _ (eval (Expr.Name _ _) _) _ _ _); k_dflt (refine' nameX_L ?F ?v ?_ ?a ?b ?d; (case F => k_asm); (case a => exact Eq.refl ScopeKind.function); (case b => exact Eq.refl (some NameKind.local)); (case d => exact Eq.refl false); (case v => exact Eq.refl (some _)); k_whole))) | (k_end; wrow_close) | walk1 | (dsimp only; walk1) | (leave1; walk_say "STEP leave1"; try dsimp only)))
    exact absurd ‹pd = 0› ‹pd ≠ 0›
    refine mark_in (bshl (p := 2 ^ hf.toNat) rfl hN.n0 12000 (hN.q1bits hv7 hP hv8) (by have := hN.nn; omega) ?_)
    intro v10 hv10
    try dsimp only
    w_strict (repeat' (first | (k_unfold; (try dsimp only)) | (with_reducible (k_here; (with_reducible show wpAny _ _ (call (Value.ref 44) [Value.int _ _, Value.int _ _, Value.int _ _, Value.int _ _, Value.int _ _, Value.int _ _]) _ _ _); k_dflt ( refine' (d32_c _ _ _ _ _ _ _ _ _ _ _ _ _ ).use ?k1 ?k2 ?k3 ?k4 ?k5 ?kK ?kp ?kd ?ku ?_; (case k1 => k_asm); (case k2 => k_asm); (case k3 => k_asm); (case k4 => k_asm); (case k5 => k_asm); (case kK => first | exact rfl | assumption); (case kp => assumption); (case kd => exact Nat.le_of_ble_eq_true rfl); (case ku => exact Nat.le_of_ble_eq_true rfl); intro x9qi o9qi h9qi tk9qi g9qi F9qi N9qi O9qi; (obtain ⟨q9qi, r9qi, e9qi⟩ := g9qi; subst e9qi); (try dsimp only); (try k_fold)))) | (with_reducible (k_here; (with_reducible show wpAny _ _ (storeName _ _ _) _ _ _); k_dflt ((first | refine' stI ?F ?N ?_ ?a ?b | refine' stS ?F ?N ?_ ?a ?b | refine' stA ?F ?N ?_ ?a ?b); (case F => k_asm); (case N => k_asm); (case a => exact Eq.refl ScopeKind.function); (case b => exact Eq.refl (some NameKind.local)); k_whole; intro hqi tqi uqi Fqi Nqi; (try k_sweep)))) | (with_reducible (k_here; (with_reducible show wpAny _ _ (eval (Expr.Name _ _) _) _ _ _); k_dflt (refine' nameX_L ?F ?v ?_ ?a ?b ?d; (case F => k_asm); (case a => exact Eq.refl ScopeKind.function); (case b => exact Eq.refl (some NameKind.local)); (case d => exact Eq.refl false); (case v => exact Eq.refl (some _)); k_whole))) | (k_end; wrow_close) | walk1 | (dsimp only; walk1) | (leave1; walk_say "STEP leave1"; try dsimp only)))
    refine mark_in (bor ?_)
    intro o ho
    have tt := hN.total hv7 hP hv8 hv9 rfl rfl rfl rfl hv10 ho
    try dsimp only
    w_strict (repeat' (first | (k_unfold; (try dsimp only)) | (with_reducible (k_here; (with_reducible show wpAny _ _ (call (Value.ref 44) [Value.int _ _, Value.int _ _, Value.int _ _, Value.int _ _, Value.int _ _, Value.int _ _]) _ _ _); k_dflt ( refine' (d32_c _ _ _ _ _ _ _ _ _ _ _ _ _ ).use ?k1 ?k2 ?k3 ?k4 ?k5 ?kK ?kp ?kd ?ku ?_; (case k1 => k_asm); (case k2 => k_asm); (case k3 => k_asm); (case k4 => k_asm); (case k5 => k_asm); (case kK => first | exact rfl | assumption); (case kp => assumption); (case kd => exact Nat.le_of_ble_eq_true rfl); (case ku => exact Nat.le_of_ble_eq_true rfl); intro x9qi o9qi h9qi tk9qi g9qi F9qi N9qi O9qi; (obtain ⟨q9qi, r9qi, e9qi⟩ := g9qi; subst e9qi); (try dsimp only); (try k_fold)))) | (with_reducible (k_here; (with_reducible show wpAny _ _ (storeName _ _ _) _ _ _); k_dflt ((first | refine' stI ?F ?N ?_ ?a ?b | refine' stS ?F ?N ?_ ?a ?b | refine' stA ?F ?N ?_ ?a ?b); (case F => k_asm); (case N => k_asm); (case a => exact Eq.refl ScopeKind.function); (case b => exact Eq.refl (some NameKind.local)); k_whole; intro hqi tqi uqi Fqi Nqi; (try k_sweep)))) | (with_reducible (k_here; (with_reducible show wpAny _ _ (eval (Expr.Name _ _) _) _ _ _); k_dflt (refine' nameX_L ?F ?v ?_ ?a ?b ?d; (case F => k_asm); (case a => exact Eq.refl ScopeKind.function); (case b => exact Eq.refl (some NameKind.local)); (case d => exact Eq.refl false); (case v => exact Eq.refl (some _)); k_whole))) | (k_end; wrow_close) | walk1 | (dsimp only; walk1) | (leave1; walk_say "STEP leave1"; try dsimp only)))
    refine hret _ _ _ _ (pairOf.mk' tt.1 tt.2) (by k_asm) (News.drop4 (by k_asm)) (off1_of_allLt (And.right (And.right (And.right (by assumption)))))
end
section
local macro_rules | `(tactic| omega) => `(tactic| first | lia | omega (config := {}))
section
open PySem PySem.W PyProof.Rows
set_option Elab.async false
set_option maxRecDepth 100000
/-- the number whose m digits stand at i .. -/
noncomputable def dR (p : Int) (ns : List Int) : Nat → Nat → Int
  | _, 0 => 0
  | i, m + 1 => ns.getD i 0 + p * dR p ns (i + 1) m
theorem dR_add (p : Int) (ns : List Int) : ∀ (a i b : Nat), dR p ns i (a + b) = dR p ns (i + a) b * p ^ a + dR p ns i a
  | 0, i, b => by rw [Nat.zero_add, Nat.add_zero, Int.pow_zero, Int.mul_one]; show _ = _ + 0; omega
  | a + 1, i, b => by
    have e : a + 1 + b = (a + b) + 1 := by omega
    rw [e]
    show ns.getD i 0 + p * dR p ns (i + 1) (a + b) = _ + (ns.getD i 0 + p * dR p ns (i + 1) a)
    rw [dR_add p ns a (i + 1) b, Int.mul_add, Int.pow_succ, show i + 1 + a = i + (a + 1) by omega]
    have : p * (dR p ns (i + (a + 1)) b * p ^ a) = dR p ns (i + (a + 1)) b * (p ^ a * p) := by
      rw [Int.mul_comm p, Int.mul_assoc]
    omega
theorem dR_bnd {p : Int} {ns : List Int} (hp : 0 < p) (h : ∀ i, 0 ≤ ns.getD i 0 ∧ ns.getD i 0 < p) : ∀ (m i : Nat), 0 ≤ dR p ns i m ∧ dR p ns i m < p ^ m
  | 0, i => ⟨Int.le_refl _, by rw [Int.pow_zero]; exact Int.zero_lt_one⟩
  | m + 1, i => by
    have ⟨h1, h2⟩ := dR_bnd hp h m (i + 1)
    have ⟨h3, h4⟩ := h i
    show 0 ≤ ns.getD i 0 + p * dR p ns (i + 1) m ∧ ns.getD i 0 + p * dR p ns (i + 1) m < _
    have h5 : 0 ≤ p * dR p ns (i + 1) m := Int.mul_nonneg (Int.le_of_lt hp) h1
    have h6 : p * (dR p ns (i + 1) m + 1) ≤ p * p ^ m := Int.mul_le_mul_of_nonneg_left h2 (Int.le_of_lt hp)
    rw [Int.mul_add, Int.mul_one] at h6
    rw [Int.pow_succ, Int.mul_comm (p ^ m) p]
    omega
/-- the digits are no less than 0 and have n bits -/
noncomputable def DigOk (n : Int) (ns : List Int) : Prop := 1 ≤ n ∧ n ≤ 4200 ∧ ns.length ≤ 6 ∧ ∀ x ∈ ns, 0 ≤ x ∧ x < 2 ^ n.toNat
theorem DigOk.short {n : Int} {ns : List Int} (h : DigOk n ns) : ns.length ≤ 1000 := Nat.le_trans h.2.2.1 (by decide)
theorem DigOk.getD {n : Int} {ns : List Int} (h : DigOk n ns) (i : Nat) : 0 ≤ ns.getD i 0 ∧ ns.getD i 0 < 2 ^ n.toNat := by
  by_cases hi : i < ns.length
  · have e : ns.getD i 0 = ns[i] := by simp [List.getD, hi]
    rw [e]
    exact h.2.2.2 _ (List.getElem_mem hi)
  · have e : ns.getD i 0 = 0 := by simp [List.getD, Nat.not_lt.mp hi]
    rw [e]
    exact ⟨Int.le_refl _, p2_pos _⟩
theorem DigOk.bits {n : Int} {ns : List Int} (h : DigOk n ns) {i m : Nat} (hm : m ≤ 6) : Builtin.Int.intBits (dR (2 ^ n.toNat) ns i m) ≤ 25200 := by
  have ⟨h1, h2⟩ := dR_bnd (p2_pos n.toNat) h.getD m i
  rw [← Int.pow_mul] at h2
  have h3 := h.2.1
  have h4 : n.toNat * m ≤ 4200 * 6 := Nat.mul_le_mul (by omega) hm
  exact Nat.le_trans (bits_of_lt h1 h2) h4
/-- the halves of an open range, as `inner` takes them -/
theorem dR_halves {n : Int} {ns : List Int} (h : DigOk n ns) {i m : Nat} {mid v : Int} (h2 : 2 ≤ m) (hmid : mid = ((i : Int) + ((i : Int) + m)) / 2) (hv : v = dR (2 ^ n.toNat) ns (i + m / 2) (m - m / 2) * 2 ^ ((mid - i) * n).toNat) :
    v + dR (2 ^ n.toNat) ns i (m / 2) = dR (2 ^ n.toNat) ns i m := by
  have e := dR_add (2 ^ n.toNat) ns (m / 2) i (m - m / 2)
  rw [show m / 2 + (m - m / 2) = m by omega] at e
  have e2 : ((mid - i) * n).toNat = n.toNat * (m / 2) := by
    have e3 : mid - i = ((m / 2 : Nat) : Int) := by omega
    have h1 := h.1
    rw [e3, Int.toNat_mul (by omega) (by omega), Int.toNat_natCast, Nat.mul_comm]
  rw [e, hv, e2, Int.pow_mul]
theorem shift_bnd {n mid x sh : Int} {ns : List Int} (h : DigOk n ns) (hs : sh = (mid - x) * n) (h0 : 0 ≤ mid - x) (h1 : mid - x ≤ 6) : 0 ≤ sh ∧ sh ≤ 25200 := by
  have a1 := h.1
  have a2 := h.2.1
  have e1 : 0 ≤ (mid - x) * n := Int.mul_nonneg h0 (by omega)
  have e2 : (mid - x) * n ≤ 6 * n := Int.mul_le_mul_of_nonneg_right h1 (by omega)
  omega
end
section
open PySem PySem.W PyProof.Rows PySem.Calls
set_option Elab.async false
set_option maxRecDepth 100000
/-- a code table: still empty, or its one nested def's code laid -/
noncomputable def Tab (ln co : Nat) (qual : Str) (ps : Array Value) (rest : List (Addr × Obj)) : Prop :=
  ps = #[] ∨ ∃ c' oc vs t, ps = #[rawInt ln, rawInt co, .ref c'] ∧ (c', oc) ∈ rest ∧ oc.data = .fields vs ∧ vs[1]? = some (.str qual t)
section
variable {prog : Program} {w : World} {A : Around} {E : Value → Shared → Prop} {s : Shared} {h₀ : Heap} {L a c P : Addr} {m mg mb : Str → Option Value} {cn : Str} {cs : Scope} {ccd : Value} {cl : List (Str × Addr)} {news rest : List (Addr × Obj)} {g : Obj → List (Addr × Obj)}
  {p : Program} {loose : List Str} {mean : ExcName → Option Value} {name qual : Str} {params : Arguments} {body : List Stmt} {scope : Scope} {ps : Array Value} {pos : Pos} {firstLine : Nat} {clos : List (Str × Addr)}
theorem upd_same {d : Addr} {o : Obj} {l : List (Addr × Obj)} {g : Obj → List (Addr × Obj)} (U : UpdF d o l g) : g o = l ∧ (d, o) ∈ l := by
  obtain ⟨pre, post, e1, e2, _, _⟩ := U.split
  rw [e2, e1]
  exact ⟨rfl, List.mem_append_right _ (.head _)⟩
theorem nest_any {Q : Value → Shared → Prop} (xs : List Addr) (F : Fr h₀ L s.heap m) (N : News h₀ L s.heap news) (T : Top p loose mean mg mb h₀) (C : CodeHd h₀ c P) (hcd : ccd = .ref c) (U : UpdF P (tabObj ps) news g)
    (hT : Tab pos.line pos.col qual ps rest) (hr : ∀ q ∈ rest, q ∈ news) (hx1 : ∀ x ∈ xs, ∃ o, (x, o) ∈ news) (hx2 : ∀ x ∈ xs, ∀ q ∈ rest, q.1 ≠ x)
    (hcl : closureFor scope (envX cn cs L a ccd cl) = pure clos)
    (h : ∀ f c' oc vs t ctv doc h' tk, Fr h₀ L h' m →
      News h₀ L h' ((f, fnMade name qual params body scope clos doc ((mg "__name__").getD .none) c' ctv) :: (c', oc) :: g (tabObj #[rawInt pos.line, rawInt pos.col, .ref c'])) →
      oc.data = .fields vs → vs[1]? = some (.str qual t) → (∀ q ∈ news, q.1 < f) → c' < f → (∀ x ∈ xs, c' ≠ x) → Q (.ref f) { s with heap := h', toks := tk }) :
    wpAny (model prog w) A (makeFunction name qual params (.stmts body) scope (envX cn cs L a ccd cl) [] [] [] pos firstLine) Q E s := by
  rcases hT with rfl | ⟨c', oc, vs, t, rfl, hm, hd, hv⟩
  · refine nest_K F N T C hcd U (by simp [TriplesOk]) (by simp [codeAmong]) hcl fun f c' oc vs t ctv doc h' tk F' N' hd hv hlt hf => ?_
    refine h f c' oc vs t ctv doc h' tk F' N' hd hv (fun q hq => Nat.lt_trans (hlt q hq) hf) hf fun x hx => ?_
    obtain ⟨o, ho⟩ := hx1 x hx
    exact Nat.ne_of_gt (hlt _ ho)
  · obtain ⟨e, hmem⟩ := upd_same U
    refine nestHit_K F N T C hcd hmem (by simp [TriplesOk, rawInt]) (c' := c') (by simp [codeAmong, rawInt]) hcl fun f ctv doc h' tk F' N' hlt => ?_
    refine h f c' oc vs t ctv doc h' tk F' (fun q hq => ?_) hd hv hlt (hlt _ (hr _ hm)) fun x hx => hx2 x hx _ hm
    rw [e] at hq
    rcases List.mem_cons.mp hq with rfl | hq
    · exact N' _ (.head _)
    · rcases List.mem_cons.mp hq with rfl | hq
      · exact N' _ (.tail _ (hr _ hm))
      · exact N' _ (.tail _ hq)
end
/-- a call's contract: what it asks of the heap, of the ledger; what comes back, the ledger behind it -/
noncomputable def ConX (w : World) (loose : List Str) (mean : ExcName → Option Value) (mg mb : Str → Option Value) (f : Addr) (d u : Nat) (pre : Heap → List (Addr × Obj) → Prop) (vs : List Value) (kw : List (Str × Value)) (post : List (Addr × Obj) → Value → List (Addr × Obj) → Prop) : Prop :=
  ∀ (dp un : Nat) (gd : Option (List Code)) (cn : Str) (cs : Scope) (a : Addr) (ccd : Value) (cl : List (Str × Addr)) (outer : List Env) (A₀ : Around) (base h₀ : Heap) (L : Addr) (m : Str → Option Value) (s : Shared) (news : List (Addr × Obj)) (Q E : Value → Shared → Prop), dp ≤ d → un ≤ u → Below A₀ base outer h₀ → Fr h₀ L s.heap m → (hd.heap_39 w.params).In h₀ → News h₀ L s.heap news → Top topProg loose mean mg mb h₀ → cs.kind = .function → pre base news →
    (∀ (v : Value) (h' : Heap) (tk' : Nat) (news' : List (Addr × Obj)), post news v news' → Fr h₀ L h' m → News h₀ L h' news' → Q v { s with heap := h', toks := tk' }) →
    wpAny (model PySem.Challenge.rw_tv0051_01.row.prog w) (ktrTop dp un gd cn cs L a ccd cl outer) (call (.ref f) vs kw) Q E s
theorem ConX.use {w : World} {loose : List Str} {mean : ExcName → Option Value} {mg mb : Str → Option Value} {f : Addr} {d u : Nat} {pre : Heap → List (Addr × Obj) → Prop} {vs : List Value} {kw : List (Str × Value)} {post : List (Addr × Obj) → Value → List (Addr × Obj) → Prop} (C : ConX w loose mean mg mb f d u pre vs kw post)
    {dp un : Nat} {gd : Option (List Code)} {cn : Str} {cs : Scope} {a : Addr} {ccd : Value} {cl : List (Str × Addr)} {outer : List Env} {A₀ : Around} {base h₀ : Heap} {L : Addr} {m : Str → Option Value} {s : Shared} {news : List (Addr × Obj)} {Q E : Value → Shared → Prop}
    (B : Below A₀ base outer h₀) (F : Fr h₀ L s.heap m) (X : (hd.heap_39 w.params).In h₀) (N : News h₀ L s.heap news) (T : Top topProg loose mean mg mb h₀) (hk : cs.kind = .function) (hp : pre base news) (hd : dp ≤ d) (hu : un ≤ u)
    (ret : ∀ (v : Value) (h' : Heap) (tk' : Nat) (news' : List (Addr × Obj)), post news v news' → Fr h₀ L h' m → News h₀ L h' news' → Q v { s with heap := h', toks := tk' }) :
    wpAny (model PySem.Challenge.rw_tv0051_01.row.prog w) (ktrTop dp un gd cn cs L a ccd cl outer) (call (.ref f) vs kw) Q E s := C _ _ _ _ _ _ _ _ _ _ _ _ _ _ _ _ _ _ hd hu B F X N T hk hp ret
theorem ConX.intro {w : World} {loose : List Str} {mean : ExcName → Option Value} {mg mb : Str → Option Value} {f : Addr} {d u : Nat} {pre : Heap → List (Addr × Obj) → Prop} {vs : List Value} {kw : List (Str × Value)} {post : List (Addr × Obj) → Value → List (Addr × Obj) → Prop}
    (C : ∀ (gd : Option (List Code)) (cn : Str) (cs : Scope) (a : Addr) (ccd : Value) (cl : List (Str × Addr)) (outer : List Env) (A₀ : Around) (base h₀ : Heap) (L : Addr) (m : Str → Option Value) (s : Shared) (news : List (Addr × Obj)) (Q E : Value → Shared → Prop), Below A₀ base outer h₀ → Fr h₀ L s.heap m → (hd.heap_39 w.params).In h₀ → News h₀ L s.heap news → Top topProg loose mean mg mb h₀ → cs.kind = .function → pre base news →
      (∀ (v : Value) (h' : Heap) (tk' : Nat) (news' : List (Addr × Obj)), post news v news' → Fr h₀ L h' m → News h₀ L h' news' → Q v { s with heap := h', toks := tk' }) →
      wpAny (model PySem.Challenge.rw_tv0051_01.row.prog w) (ktrTop d u gd cn cs L a ccd cl outer) (call (.ref f) vs kw) Q E s) : ConX w loose mean mg mb f d u pre vs kw post := by
  intro dp un gd cn cs a ccd cl outer A₀ base h₀ L m s news Q E hd hu B F X N T hk hp ret
  exact at_less (C gd cn cs a ccd cl outer A₀ base h₀ L m s news Q E B F X N T hk hp ret) hd hu
theorem News.sub {h₀ h : Heap} {L : Addr} {l l' : List (Addr × Obj)} (N : News h₀ L h l) (hs : ∀ q ∈ l', q ∈ l) : News h₀ L h l' := fun q hq => N q (hs q hq)
theorem News.named {h₀ h : Heap} {L : Addr} {l : List (Addr × Obj)} (N : News h₀ L h l) : ∃ ld, ld = l ∧ News h₀ L h ld := ⟨l, rfl, N⟩
theorem my_ne_up {d e : Addr} : ∀ {l : List (Addr × Obj)}, AllLt d l → @LE.le Nat _ d e → ∀ p ∈ l, p.1 ≠ e
  | [], _, _, _, hp => nomatch hp
  | q :: r, h, he, p, hp => by
    rcases List.mem_cons.mp hp with rfl | hp
    · exact Nat.ne_of_lt (Nat.lt_of_lt_of_le h.1 he)
    · exact my_ne_up h.2 he p hp
theorem truthy_ints {prog : Program} {w : World} {A : Around} {E : Value → Shared → Prop} {s : Shared} {l : Addr} {vs : List Value} {ns : List Int} {Q : Bool → Shared → Prop} (hl : s.heap.IsList l vs.toArray) (hi : IntsAre vs ns) (hx : ns.length ≤ 1000)
    (h : Q (decide (0 < ns.length)) { s with toks := s.toks + 1 + 1 }) : wpAny (model prog w) A (truthy (.ref l)) Q E s := by
  have e0 := hi.length
  refine wpAny_truthy_list hl (by rw [List.size_toArray]; omega) ?_
  have e : (!vs.toArray.isEmpty) = decide (0 < ns.length) := by
    cases vs with
    | nil => simp at e0; simp [e0]
    | cons a r => simp at e0; simp [← e0]
  rw [e]; exact h
theorem len_ints {prog : Program} {w : World} {A : Around} {E : Value → Shared → Prop} {s : Shared} {l : Addr} {vs : List Value} {ns : List Int} {Q : Value → Shared → Prop} (hl : s.heap.IsList l vs.toArray) (hi : IntsAre vs ns) (hx : ns.length ≤ 1000)
    (h : Q (.int ns.length (s.toks + 1)) { s with toks := s.toks + 1 + 1 }) : wpAny (model prog w) A (call (.builtin "len") [.ref l]) Q E s := by
  have e0 : vs.toArray.size = ns.length := by rw [List.size_toArray]; exact hi.length
  exact len_list hl (by rw [e0]; omega) (by rw [e0]; exact h)
theorem half_nat : ∀ m : Nat, m < 7 → 2 ≤ m → (m - m / 2 < m ∧ 1 ≤ m - m / 2 ∧ m - m / 2 ≤ 6 ∧ 600 - 20 * m + 1 ≤ 600 - 20 * (m - m / 2) ∧ 4000 - 100 * m + 3 ≤ 4000 - 100 * (m - m / 2)) ∧ (m / 2 < m ∧ 1 ≤ m / 2 ∧ m / 2 ≤ 6 ∧ 600 - 20 * m + 1 ≤ 600 - 20 * (m / 2) ∧ 4000 - 100 * m + 3 ≤ 4000 - 100 * (m / 2) ∧ m / 2 ≤ m) ∧ m / 2 + (m - m / 2) = m := by decide +kernel
theorem half_int {m i k : Nat} {x y mid : Int} (h1 : 1 ≤ m) (h6 : m ≤ 6) (hl : i + m ≤ k) (hx : x = i) (hy : y = (i : Int) + (m : Int)) (hm : mid = (x + y) / 2) (hne : x + 1 ≠ y) :
    ((m - m / 2 < m ∧ 1 ≤ m - m / 2 ∧ m - m / 2 ≤ 6 ∧ 600 - 20 * m + 1 ≤ 600 - 20 * (m - m / 2) ∧ 4000 - 100 * m + 3 ≤ 4000 - 100 * (m - m / 2)) ∧ (m / 2 < m ∧ 1 ≤ m / 2 ∧ m / 2 ≤ 6 ∧ 600 - 20 * m + 1 ≤ 600 - 20 * (m / 2) ∧ 4000 - 100 * m + 3 ≤ 4000 - 100 * (m / 2) ∧ m / 2 ≤ m)) ∧
    (mid = ((i + m / 2 : Nat) : Int) ∧ y = ((i + m / 2 : Nat) : Int) + ((m - m / 2 : Nat) : Int) ∧ mid = (i : Int) + ((m / 2 : Nat) : Int)) ∧ (i + m / 2 + (m - m / 2) ≤ k ∧ i + m / 2 ≤ k) ∧
    (-2 ^ 64 < mid - x ∧ mid - x < 2 ^ 64 ∧ 0 ≤ mid - x ∧ mid - x ≤ 6 ∧ mid - x = ((m / 2 : Nat) : Int)) := by
  have h2 : m < 7 := by omega
  have h3 : 2 ≤ m := by omega
  obtain ⟨f, g, e⟩ := half_nat m h2 h3
  have e1 : mid = (i : Int) + ((m / 2 : Nat) : Int) := by omega
  have e2 : mid - x = ((m / 2 : Nat) : Int) := by omega
  have e3 := g.2.2.1
  refine ⟨⟨f, g⟩, ⟨?_, ?_, e1⟩, ⟨?_, ?_⟩, ?_, ?_, ?_, ?_, e2⟩ <;> (clear f g hm hne h6; omega)
end
end
section
open PySem PySem.W PyProof.Rows
set_option Elab.async false
set_option maxRecDepth 100000
set_option maxHeartbeats 8000000
local macro_rules | `(tactic| k_mem) => `(tactic| ((repeat (first | with_reducible assumption | with_reducible refine List.mem_cons_of_mem _ ?_)); done))
local macro_rules | `(tactic| is_list) => `(tactic| exact News.isList (by k_asm) (by (repeat (first | assumption | with_reducible refine List.mem_cons_of_mem _ ?_)); done))
local macro_rules | `(tactic| k_all) => `(tactic| exact off1_ne (by assumption))
local macro_rules | `(tactic| k_all) => `(tactic| exact my_ne_up (by assumption) (by omega))
local macro_rules | `(tactic| walk_at "exec FunctionDef") => `(tactic| (k_here; refine mark_of ?_))
local macro_rules | `(tactic| walk_at "call ref") => `(tactic| (k_here; refine mark_of ?_))
local macro_rules | `(tactic| walk_at "binaryOp RShift int int") => `(tactic| (k_here; refine mark_of ?_))
local macro_rules | `(tactic| walk_at "binaryOp LShift int int") => `(tactic| (k_here; refine mark_of ?_))
local macro_rules | `(tactic| walk_at "binaryOp Mult int int") => `(tactic| (k_here; refine mark_of ?_))
theorem News.d2i {h₀ h : Heap} {L : Addr} {a b c d e p : Addr × Obj} {l : List (Addr × Obj)} (N : News h₀ L h (a :: b :: c :: d :: e :: p :: l)) : News h₀ L h (b :: p :: l) := News.sub N (fun q hq => by
  rcases List.mem_cons.mp hq with rfl | hq
  · exact .tail _ (.head _)
  · exact .tail _ (.tail _ (.tail _ (.tail _ (.tail _ hq)))))
theorem d2i_core {w : World} {loose : List Str} {mean : ExcName → Option Value} {mg mb : Str → Option Value} (l : Addr) (vs : List Value) (ns : List Int) (e : Nat) (n : Int) (ps : Array Value) (rest : List (Addr × Obj)) (t2 : Tok) :
    ConX w loose mean mg mb 58 440 3000 (fun base news => CodeHd base 57 53 ∧ news = (53, tabObj ps) :: rest ∧ LCg.Off1 53 rest ∧ Tab 71 4 (Str.ofString "_digits2int.<locals>.inner") ps rest ∧ (l, listOf vs.toArray e) ∈ rest ∧ IntsAre vs ns ∧ DigOk n ns) [.ref l, .int n t2] [] (fun news v news' => ∃ t c' oc vs' t', v = .int (dR (2 ^ n.toNat) ns 0 ns.length) t ∧ news' = (c', oc) :: (53, tabObj #[rawInt (71 : Nat), rawInt (4 : Nat), .ref c']) :: rest ∧ oc.data = .fields vs' ∧ vs'[1]? = some (.str (Str.ofString "_digits2int.<locals>.inner") t') ∧ @Ne Nat c' 53) := by
  refine ConX.intro ?_
  k_fill
  intros
  rename_i hp hret
  (try dsimp only at hret)
  (try dsimp only at hp)
  obtain ⟨hC, rfl, hO, hT, hm, hi, hD⟩ := hp
  refine wpAny_call ?_
  k_with_none
  k_dflt (refine' code_defC ?k1 ?k2 ?k3 ?k4 ?k5 ?kA ?kF ?kK ?k6 ?k7 ?k8 ?k9 ?kB ?kD ?_ ?c2 ?c3 ?c4; (case kA => exact rfl); (case kF => exact rfl); (case kK => assumption); (case k1 => k_asm); (case k2 => k_asm); (case k3 => k_asm); (case k4 => k_asm); (case k5 => k_asm); (case k6 => k_is); (case k7 => k_is); (case k8 => ktr_room); (case k9 => exact BindsTo.of_eq rfl); (case kB => exact rfl); (case kD => decide +kernel); (case c2 => exact rfl); (case c3 => exact rfl); (case c4 => exact rfl); k_whole; intro g' L' h' tk' cells' FG' F' N' Y' B' X' T' l1; (try k_lt l1); k_cells Y'; (try simp only [List.cons_append, List.nil_append] at N'); (try dsimp only); (try k_lift B'); (try k_fold))
  have hA9 : AllLt _ _ := l1.2
  w_strict (repeat' (first | (k_unfold; (try dsimp only)) | (with_reducible (k_here; (with_reducible show wpAny _ _ (subscriptTail _ _ (Value.ref _) (Value.int _ _)) _ _ _); (with_unfolding_all refine' ints_item ?k1 ?k2 ?k3 ?k4 ?k5 ?_ ?k6; (case k1 => is_list); (case k2 => assumption); (case k3 => omega); (case k4 => omega); (case k5 => exact DigOk.short (by assumption)); (case k6 => with_unfolding_all rfl); k_whole); intro t9qi)) | (with_reducible (k_here; (with_reducible show wpAny _ _ (call (Value.builtin _) [Value.ref _]) _ _ _); refine len_ints (by is_list) (by assumption) (DigOk.short (by assumption)) ?_)) | (with_reducible (k_here; (with_reducible show wpAny _ _ (truthy (Value.ref _)) _ _ _); refine truthy_ints (by is_list) (by assumption) (DigOk.short (by assumption)) ?_)) | (with_reducible (k_here; (with_reducible show wpAny _ _ (storeName _ _ _) _ _ _); k_dflt ((first | refine' stI ?F ?N ?_ ?a ?b | refine' stS ?F ?N ?_ ?a ?b | refine' stA ?F ?N ?_ ?a ?b); (case F => k_asm); (case N => k_asm); (case a => exact Eq.refl ScopeKind.function); (case b => exact Eq.refl (some NameKind.local)); k_whole; intro hqi tqi uqi Fqi Nqi; (try k_sweep)))) | (with_reducible (k_here; (with_reducible show wpAny _ _ (eval (Expr.Name _ _) _) _ _ _); k_dflt (refine' nameX_L ?F ?v ?_ ?a ?b ?d; (case F => k_asm); (case a => exact Eq.refl ScopeKind.function); (case b => exact Eq.refl (some NameKind.local)); (case d => exact Eq.refl false); (case v => exact Eq.refl (some _)); k_whole))) | (k_end; wrow_close) | walk1 | (dsimp only; walk1) | (leave1; walk_say "STEP leave1"; try dsimp only)))
  refine mark_in (nestDef_K rfl rfl rfl ?_)
  refine' nest_any [L' + 1 + 1 + 1, L' + 1 + 1, L' + 1, 53] ?F ?N ?T ?C rfl ?U hT ?hr ?hx1 ?hx2 rfl ?_
  case F => k_asm
  case N => k_asm
  case T => k_asm
  case C => kn_code
  case U => k_updF
  case hr => exact fun q hq => .tail _ (.tail _ (.tail _ (.tail _ hq)))
  case hx1 => exact List.forall_mem_cons.mpr ⟨⟨_, .head _⟩, List.forall_mem_cons.mpr ⟨⟨_, .tail _ (.head _)⟩, List.forall_mem_cons.mpr ⟨⟨_, .tail _ (.tail _ (.head _))⟩, List.forall_mem_cons.mpr ⟨⟨_, .tail _ (.tail _ (.tail _ (.head _)))⟩, fun _ h => nomatch h⟩⟩⟩⟩
  case hx2 => exact List.forall_mem_cons.mpr ⟨my_ne_up hA9 (by omega), List.forall_mem_cons.mpr ⟨my_ne_up hA9 (by omega), List.forall_mem_cons.mpr ⟨my_ne_up hA9 (by omega), List.forall_mem_cons.mpr ⟨off1_ne hO, fun _ h => nomatch h⟩⟩⟩⟩
  intro f' c' oc' vs' tq ct' dc' h5 tk5 F5 N5 d8 d9 l5 l6 hne
  try k_lt l5
  have n1 : @Ne Nat c' (L' + 1 + 1 + 1) := hne _ (.head _)
  have n2 : @Ne Nat c' (L' + 1 + 1) := hne _ (.tail _ (.head _))
  have n3 : @Ne Nat c' (L' + 1) := hne _ (.tail _ (.tail _ (.head _)))
  have n4 : @Ne Nat c' 53 := hne _ (.tail _ (.tail _ (.tail _ (.head _))))
  have n5 : @LT.lt Nat _ c' f' := l6
  clear hne
  try dsimp only
  w_strict (repeat' (first | (k_unfold; (try dsimp only)) | (with_reducible (k_here; (with_reducible show wpAny _ _ (subscriptTail _ _ (Value.ref _) (Value.int _ _)) _ _ _); (with_unfolding_all refine' ints_item ?k1 ?k2 ?k3 ?k4 ?k5 ?_ ?k6; (case k1 => is_list); (case k2 => assumption); (case k3 => omega); (case k4 => omega); (case k5 => exact DigOk.short (by assumption)); (case k6 => with_unfolding_all rfl); k_whole); intro t9qi)) | (with_reducible (k_here; (with_reducible show wpAny _ _ (call (Value.builtin _) [Value.ref _]) _ _ _); refine len_ints (by is_list) (by assumption) (DigOk.short (by assumption)) ?_)) | (with_reducible (k_here; (with_reducible show wpAny _ _ (truthy (Value.ref _)) _ _ _); refine truthy_ints (by is_list) (by assumption) (DigOk.short (by assumption)) ?_)) | (with_reducible (k_here; (with_reducible show wpAny _ _ (storeName _ _ _) _ _ _); k_dflt ((first | refine' stI ?F ?N ?_ ?a ?b | refine' stS ?F ?N ?_ ?a ?b | refine' stA ?F ?N ?_ ?a ?b); (case F => k_asm); (case N => k_asm); (case a => exact Eq.refl ScopeKind.function); (case b => exact Eq.refl (some NameKind.local)); k_whole; intro hqi tqi uqi Fqi Nqi; (try k_sweep)))) | (with_reducible (k_here; (with_reducible show wpAny _ _ (eval (Expr.Name _ _) _) _ _ _); k_dflt (refine' nameX_L ?F ?v ?_ ?a ?b ?d; (case F => k_asm); (case a => exact Eq.refl ScopeKind.function); (case b => exact Eq.refl (some NameKind.local)); (case d => exact Eq.refl false); (case v => exact Eq.refl (some _)); k_whole))) | (k_end; wrow_close) | walk1 | (dsimp only; walk1) | (leave1; walk_say "STEP leave1"; try dsimp only)))
  · (with_reducible rename News _ _ _ _ => kN; with_reducible rename Fr _ _ _ _ => kF)
    obtain ⟨ld, hld, kN⟩ := News.named kN
    have key : ∀ (m i : Nat) (x y : Int) (u1 u2 : Tok), 1 ≤ m → m ≤ 6 → i + m ≤ ns.length → x = i → y = i + m → ConS w loose mean mg mb f' (600 - 20 * m) (4000 - 100 * m) (fun nw => ∀ q ∈ ld, q ∈ nw) [.int x u1, .int y u2] [] (fun tk => .int (dR (2 ^ n.toNat) ns i m) tk) True := by
      intro m
      induction m using Nat.strongRecOn with
      | ind m ih =>
      intro i x y u1 u2 hm1 hm2 him hx hy
      refine ConS.intro ?_
      k_fill
      intros
      rename_i hp hret
      (try dsimp only at hret)
      (try dsimp only at hp)
      have hpp := hp
      rw [hld] at hp
      have m1 := hp _ (.head _)
      have m2 := hp _ (.tail _ (.head _))
      have m3 := hp _ (.tail _ (.tail _ (.head _)))
      have m4 := hp _ (.tail _ (.tail _ (.tail _ (.head _))))
      have m5 := hp _ (.tail _ (.tail _ (.tail _ (.tail _ (.head _)))))
      have m6 := hp _ (.tail _ (.tail _ (.tail _ (.tail _ (.tail _ (.tail _ hm))))))
      clear hp
      refine wpAny_call ?_
      k_with_none
      k_dflt (refine' code_nest ?k1 ?k2 ?k3 ?k4 ?k5 ?kA ?kF ?kK ?k6 ?k7 ?k8 ?k9 ?kB ?_ ?c2 ?c3 ?c4 ?c5; (case kA => exact rfl); (case kF => exact rfl); (case kK => assumption); (case k1 => k_asm); (case k2 => k_asm); (case k3 => k_asm); (case k4 => k_asm); (case k5 => k_asm); (case k6 => exact m1); (case k7 => exact codeRec_news (by k_asm) m2 d8 d9); (case k8 => ktr_room); (case k9 => exact BindsTo.of_eq rfl); (case c5 => decide); (case kB => exact locs rfl); (case c2 => exact rfl); (case c3 => exact rfl); (case c4 => exact rfl); k_whole; intro g2' L2' h2' FG2' F2' N2' B2' X2' T2'; (try dsimp only); (try k_lift B2'); (try k_fold))
      w_strict (repeat' (first | (k_unfold; (try dsimp only)) | (with_reducible (k_here; (with_reducible show wpAny _ _ (subscriptTail _ _ (Value.ref _) (Value.int _ _)) _ _ _); (with_unfolding_all refine' ints_item ?k1 ?k2 ?k3 ?k4 ?k5 ?_ ?k6; (case k1 => is_list); (case k2 => assumption); (case k3 => omega); (case k4 => omega); (case k5 => exact DigOk.short (by assumption)); (case k6 => with_unfolding_all rfl); k_whole); intro t9qi)) | (with_reducible (k_here; (with_reducible show wpAny _ _ (call (Value.builtin _) [Value.ref _]) _ _ _); refine len_ints (by is_list) (by assumption) (DigOk.short (by assumption)) ?_)) | (with_reducible (k_here; (with_reducible show wpAny _ _ (truthy (Value.ref _)) _ _ _); refine truthy_ints (by is_list) (by assumption) (DigOk.short (by assumption)) ?_)) | (with_reducible (k_here; (with_reducible show wpAny _ _ (storeName _ _ _) _ _ _); k_dflt ((first | refine' stI ?F ?N ?_ ?a ?b | refine' stS ?F ?N ?_ ?a ?b | refine' stA ?F ?N ?_ ?a ?b); (case F => k_asm); (case N => k_asm); (case a => exact Eq.refl ScopeKind.function); (case b => exact Eq.refl (some NameKind.local)); k_whole; intro hqi tqi uqi Fqi Nqi; (try k_sweep)))) | (with_reducible (k_here; (with_reducible show wpAny _ _ (eval (Expr.Name _ _) _) _ _ _); k_dflt (refine' nameX_L ?F ?v ?_ ?a ?b ?d; (case F => k_asm); (case a => exact Eq.refl ScopeKind.function); (case b => exact Eq.refl (some NameKind.local)); (case d => exact Eq.refl false); (case v => exact Eq.refl (some _)); k_whole))) | (k_end; wrow_close) | walk1 | (dsimp only; walk1) | (leave1; walk_say "STEP leave1"; try dsimp only)))
      · have hm1 : m = 1 := by omega
        subst hm1
        refine cb_retI (fun t h' tk' => hret t h' tk' trivial) ?_ (by k_asm) (by k_asm)
        subst hx
        show _ = ns.getD i 0 + 2 ^ n.toNat * 0
        rw [Int.mul_zero, Int.add_zero, Int.toNat_natCast]
      · refine mark_in (bshr (p := 2) rfl (by decide) ?_)
        intro mid hmid
        try dsimp only
        w_strict (repeat' (first | (k_unfold; (try dsimp only)) | (with_reducible (k_here; (with_reducible show wpAny _ _ (subscriptTail _ _ (Value.ref _) (Value.int _ _)) _ _ _); (with_unfolding_all refine' ints_item ?k1 ?k2 ?k3 ?k4 ?k5 ?_ ?k6; (case k1 => is_list); (case k2 => assumption); (case k3 => omega); (case k4 => omega); (case k5 => exact DigOk.short (by assumption)); (case k6 => with_unfolding_all rfl); k_whole); intro t9qi)) | (with_reducible (k_here; (with_reducible show wpAny _ _ (call (Value.builtin _) [Value.ref _]) _ _ _); refine len_ints (by is_list) (by assumption) (DigOk.short (by assumption)) ?_)) | (with_reducible (k_here; (with_reducible show wpAny _ _ (truthy (Value.ref _)) _ _ _); refine truthy_ints (by is_list) (by assumption) (DigOk.short (by assumption)) ?_)) | (with_reducible (k_here; (with_reducible show wpAny _ _ (storeName _ _ _) _ _ _); k_dflt ((first | refine' stI ?F ?N ?_ ?a ?b | refine' stS ?F ?N ?_ ?a ?b | refine' stA ?F ?N ?_ ?a ?b); (case F => k_asm); (case N => k_asm); (case a => exact Eq.refl ScopeKind.function); (case b => exact Eq.refl (some NameKind.local)); k_whole; intro hqi tqi uqi Fqi Nqi; (try k_sweep)))) | (with_reducible (k_here; (with_reducible show wpAny _ _ (eval (Expr.Name _ _) _) _ _ _); k_dflt (refine' nameX_L ?F ?v ?_ ?a ?b ?d; (case F => k_asm); (case a => exact Eq.refl ScopeKind.function); (case b => exact Eq.refl (some NameKind.local)); (case d => exact Eq.refl false); (case v => exact Eq.refl (some _)); k_whole))) | (k_end; wrow_close) | walk1 | (dsimp only; walk1) | (leave1; walk_say "STEP leave1"; try dsimp only)))
        obtain ⟨⟨⟨e01, e02, e03, e04, e05⟩, ⟨e06, e07, e08, e09, e10, e11⟩⟩, ⟨e12, e13, e14⟩, ⟨e15, e16⟩, ⟨e17, e18, e19, e20, e21⟩⟩ := half_int (m := m) (i := i) (k := ns.length) (by assumption) (by assumption) (by assumption) hx hy hmid (by assumption)
        refine mark_in (bmul 64 64 (intBits_le_64 (by omega) (by omega)) (intBits_le_64 (by have := hD.1; omega) (by have := hD.2.1; omega)) (by decide) ?_)
        intro sh hsh
        try dsimp only
        w_strict (repeat' (first | (k_unfold; (try dsimp only)) | (with_reducible (k_here; (with_reducible show wpAny _ _ (subscriptTail _ _ (Value.ref _) (Value.int _ _)) _ _ _); (with_unfolding_all refine' ints_item ?k1 ?k2 ?k3 ?k4 ?k5 ?_ ?k6; (case k1 => is_list); (case k2 => assumption); (case k3 => omega); (case k4 => omega); (case k5 => exact DigOk.short (by assumption)); (case k6 => with_unfolding_all rfl); k_whole); intro t9qi)) | (with_reducible (k_here; (with_reducible show wpAny _ _ (call (Value.builtin _) [Value.ref _]) _ _ _); refine len_ints (by is_list) (by assumption) (DigOk.short (by assumption)) ?_)) | (with_reducible (k_here; (with_reducible show wpAny _ _ (truthy (Value.ref _)) _ _ _); refine truthy_ints (by is_list) (by assumption) (DigOk.short (by assumption)) ?_)) | (with_reducible (k_here; (with_reducible show wpAny _ _ (storeName _ _ _) _ _ _); k_dflt ((first | refine' stI ?F ?N ?_ ?a ?b | refine' stS ?F ?N ?_ ?a ?b | refine' stA ?F ?N ?_ ?a ?b); (case F => k_asm); (case N => k_asm); (case a => exact Eq.refl ScopeKind.function); (case b => exact Eq.refl (some NameKind.local)); k_whole; intro hqi tqi uqi Fqi Nqi; (try k_sweep)))) | (with_reducible (k_here; (with_reducible show wpAny _ _ (eval (Expr.Name _ _) _) _ _ _); k_dflt (refine' nameX_L ?F ?v ?_ ?a ?b ?d; (case F => k_asm); (case a => exact Eq.refl ScopeKind.function); (case b => exact Eq.refl (some NameKind.local)); (case d => exact Eq.refl false); (case v => exact Eq.refl (some _)); k_whole))) | (k_end; wrow_close) | walk1 | (dsimp only; walk1) | (leave1; walk_say "STEP leave1"; try dsimp only)))
        refine mark_in ?_
        k_dflt (refine' (ih (m - m / 2) ?q0 (i + m / 2) mid y _ _ ?q1 ?q2 ?q3 ?q4 ?q5).use ?k1 ?k2 ?k3 ?k4 ?k5 ?kK ?kp ?kd ?ku ?_; (case q0 => omega); (case q1 => omega); (case q2 => omega); (case q3 => omega); (case q4 => omega); (case q5 => omega); (case k1 => k_asm); (case k2 => k_asm); (case k3 => k_asm); (case k4 => k_asm); (case k5 => k_asm); (case kK => first | exact rfl | assumption))
        case kp => exact hpp
        case kd => first | exact e04 | exact e09
        case ku => first | exact e05 | exact e10
        intro u3 h3 tk3 _ F3 N3
        try dsimp only
        w_strict (repeat' (first | (k_unfold; (try dsimp only)) | (with_reducible (k_here; (with_reducible show wpAny _ _ (subscriptTail _ _ (Value.ref _) (Value.int _ _)) _ _ _); (with_unfolding_all refine' ints_item ?k1 ?k2 ?k3 ?k4 ?k5 ?_ ?k6; (case k1 => is_list); (case k2 => assumption); (case k3 => omega); (case k4 => omega); (case k5 => exact DigOk.short (by assumption)); (case k6 => with_unfolding_all rfl); k_whole); intro t9qi)) | (with_reducible (k_here; (with_reducible show wpAny _ _ (call (Value.builtin _) [Value.ref _]) _ _ _); refine len_ints (by is_list) (by assumption) (DigOk.short (by assumption)) ?_)) | (with_reducible (k_here; (with_reducible show wpAny _ _ (truthy (Value.ref _)) _ _ _); refine truthy_ints (by is_list) (by assumption) (DigOk.short (by assumption)) ?_)) | (with_reducible (k_here; (with_reducible show wpAny _ _ (storeName _ _ _) _ _ _); k_dflt ((first | refine' stI ?F ?N ?_ ?a ?b | refine' stS ?F ?N ?_ ?a ?b | refine' stA ?F ?N ?_ ?a ?b); (case F => k_asm); (case N => k_asm); (case a => exact Eq.refl ScopeKind.function); (case b => exact Eq.refl (some NameKind.local)); k_whole; intro hqi tqi uqi Fqi Nqi; (try k_sweep)))) | (with_reducible (k_here; (with_reducible show wpAny _ _ (eval (Expr.Name _ _) _) _ _ _); k_dflt (refine' nameX_L ?F ?v ?_ ?a ?b ?d; (case F => k_asm); (case a => exact Eq.refl ScopeKind.function); (case b => exact Eq.refl (some NameKind.local)); (case d => exact Eq.refl false); (case v => exact Eq.refl (some _)); k_whole))) | (k_end; wrow_close) | walk1 | (dsimp only; walk1) | (leave1; walk_say "STEP leave1"; try dsimp only)))
        obtain ⟨hs0, hs1⟩ := shift_bnd hD hsh (by omega) (by omega)
        refine mark_in (bshl (p := 2 ^ sh.toNat) rfl hs0 25200 (hD.bits (by omega)) (by omega) ?_)
        intro v hv
        try dsimp only
        w_strict (repeat' (first | (k_unfold; (try dsimp only)) | (with_reducible (k_here; (with_reducible show wpAny _ _ (subscriptTail _ _ (Value.ref _) (Value.int _ _)) _ _ _); (with_unfolding_all refine' ints_item ?k1 ?k2 ?k3 ?k4 ?k5 ?_ ?k6; (case k1 => is_list); (case k2 => assumption); (case k3 => omega); (case k4 => omega); (case k5 => exact DigOk.short (by assumption)); (case k6 => with_unfolding_all rfl); k_whole); intro t9qi)) | (with_reducible (k_here; (with_reducible show wpAny _ _ (call (Value.builtin _) [Value.ref _]) _ _ _); refine len_ints (by is_list) (by assumption) (DigOk.short (by assumption)) ?_)) | (with_reducible (k_here; (with_reducible show wpAny _ _ (truthy (Value.ref _)) _ _ _); refine truthy_ints (by is_list) (by assumption) (DigOk.short (by assumption)) ?_)) | (with_reducible (k_here; (with_reducible show wpAny _ _ (storeName _ _ _) _ _ _); k_dflt ((first | refine' stI ?F ?N ?_ ?a ?b | refine' stS ?F ?N ?_ ?a ?b | refine' stA ?F ?N ?_ ?a ?b); (case F => k_asm); (case N => k_asm); (case a => exact Eq.refl ScopeKind.function); (case b => exact Eq.refl (some NameKind.local)); k_whole; intro hqi tqi uqi Fqi Nqi; (try k_sweep)))) | (with_reducible (k_here; (with_reducible show wpAny _ _ (eval (Expr.Name _ _) _) _ _ _); k_dflt (refine' nameX_L ?F ?v ?_ ?a ?b ?d; (case F => k_asm); (case a => exact Eq.refl ScopeKind.function); (case b => exact Eq.refl (some NameKind.local)); (case d => exact Eq.refl false); (case v => exact Eq.refl (some _)); k_whole))) | (k_end; wrow_close) | walk1 | (dsimp only; walk1) | (leave1; walk_say "STEP leave1"; try dsimp only)))
        refine mark_in ?_
        k_dflt (refine' (ih (m / 2) ?q0 i x mid _ _ ?q1 ?q2 ?q3 ?q4 ?q5).use ?k1 ?k2 ?k3 ?k4 ?k5 ?kK ?kp ?kd ?ku ?_; (case q0 => omega); (case q1 => omega); (case q2 => omega); (case q3 => omega); (case q4 => omega); (case q5 => omega); (case k1 => k_asm); (case k2 => k_asm); (case k3 => k_asm); (case k4 => k_asm); (case k5 => k_asm); (case kK => first | exact rfl | assumption))
        case kp => exact hpp
        case kd => first | exact e04 | exact e09
        case ku => first | exact e05 | exact e10
        intro u4 h4 tk4 _ F4 N4
        try dsimp only
        w_strict (repeat' (first | (k_unfold; (try dsimp only)) | (with_reducible (k_here; (with_reducible show wpAny _ _ (subscriptTail _ _ (Value.ref _) (Value.int _ _)) _ _ _); (with_unfolding_all refine' ints_item ?k1 ?k2 ?k3 ?k4 ?k5 ?_ ?k6; (case k1 => is_list); (case k2 => assumption); (case k3 => omega); (case k4 => omega); (case k5 => exact DigOk.short (by assumption)); (case k6 => with_unfolding_all rfl); k_whole); intro t9qi)) | (with_reducible (k_here; (with_reducible show wpAny _ _ (call (Value.builtin _) [Value.ref _]) _ _ _); refine len_ints (by is_list) (by assumption) (DigOk.short (by assumption)) ?_)) | (with_reducible (k_here; (with_reducible show wpAny _ _ (truthy (Value.ref _)) _ _ _); refine truthy_ints (by is_list) (by assumption) (DigOk.short (by assumption)) ?_)) | (with_reducible (k_here; (with_reducible show wpAny _ _ (storeName _ _ _) _ _ _); k_dflt ((first | refine' stI ?F ?N ?_ ?a ?b | refine' stS ?F ?N ?_ ?a ?b | refine' stA ?F ?N ?_ ?a ?b); (case F => k_asm); (case N => k_asm); (case a => exact Eq.refl ScopeKind.function); (case b => exact Eq.refl (some NameKind.local)); k_whole; intro hqi tqi uqi Fqi Nqi; (try k_sweep)))) | (with_reducible (k_here; (with_reducible show wpAny _ _ (eval (Expr.Name _ _) _) _ _ _); k_dflt (refine' nameX_L ?F ?v ?_ ?a ?b ?d; (case F => k_asm); (case a => exact Eq.refl ScopeKind.function); (case b => exact Eq.refl (some NameKind.local)); (case d => exact Eq.refl false); (case v => exact Eq.refl (some _)); k_whole))) | (k_end; wrow_close) | walk1 | (dsimp only; walk1) | (leave1; walk_say "STEP leave1"; try dsimp only)))
        refine cb_retI (fun t h' tk' => hret t h' tk' trivial) ?_ (by k_asm) (by k_asm)
        exact dR_halves (mid := mid) hD (by omega) (by rw [hmid, hx, hy]) (by rw [hv, hsh, hx])
    refine' (key ns.length 0 0 ns.length _ _ ?q1 ?q2 ?q3 ?q4 ?q5).use ?k1 ?k2 ?k3 ?k4 ?k5 ?kK ?kp ?kd ?ku ?_
    case q1 => omega
    case q2 => exact hD.2.2.1
    case q3 => omega
    case q4 => rfl
    case q5 => omega
    case k1 => k_asm
    case k2 => exact kF
    case k3 => k_asm
    case k4 => exact kN
    case k5 => k_asm
    case kK => exact rfl
    case kp => exact fun q hq => hq
    case kd => show 440 + 1 ≤ _; have := hD.2.2.1; omega
    case ku => show 3000 + 3 ≤ _; have := hD.2.2.1; omega
    intro u5 h9 tk9 _ F9 N9
    rw [hld] at N9
    clear kN kF
    try dsimp only
    w_strict (repeat' (first | (k_unfold; (try dsimp only)) | (with_reducible (k_here; (with_reducible show wpAny _ _ (subscriptTail _ _ (Value.ref _) (Value.int _ _)) _ _ _); (with_unfolding_all refine' ints_item ?k1 ?k2 ?k3 ?k4 ?k5 ?_ ?k6; (case k1 => is_list); (case k2 => assumption); (case k3 => omega); (case k4 => omega); (case k5 => exact DigOk.short (by assumption)); (case k6 => with_unfolding_all rfl); k_whole); intro t9qi)) | (with_reducible (k_here; (with_reducible show wpAny _ _ (call (Value.builtin _) [Value.ref _]) _ _ _); refine len_ints (by is_list) (by assumption) (DigOk.short (by assumption)) ?_)) | (with_reducible (k_here; (with_reducible show wpAny _ _ (truthy (Value.ref _)) _ _ _); refine truthy_ints (by is_list) (by assumption) (DigOk.short (by assumption)) ?_)) | (with_reducible (k_here; (with_reducible show wpAny _ _ (storeName _ _ _) _ _ _); k_dflt ((first | refine' stI ?F ?N ?_ ?a ?b | refine' stS ?F ?N ?_ ?a ?b | refine' stA ?F ?N ?_ ?a ?b); (case F => k_asm); (case N => k_asm); (case a => exact Eq.refl ScopeKind.function); (case b => exact Eq.refl (some NameKind.local)); k_whole; intro hqi tqi uqi Fqi Nqi; (try k_sweep)))) | (with_reducible (k_here; (with_reducible show wpAny _ _ (eval (Expr.Name _ _) _) _ _ _); k_dflt (refine' nameX_L ?F ?v ?_ ?a ?b ?d; (case F => k_asm); (case a => exact Eq.refl ScopeKind.function); (case b => exact Eq.refl (some NameKind.local)); (case d => exact Eq.refl false); (case v => exact Eq.refl (some _)); k_whole))) | (k_end; wrow_close) | walk1 | (dsimp only; walk1) | (leave1; walk_say "STEP leave1"; try dsimp only)))
    exact hret _ _ _ _ ⟨_, c', oc', vs', tq, rfl, rfl, d8, d9, n4⟩ (by k_asm) (News.d2i (by k_asm))
  · have e0 : ns.length = 0 := by omega
    exact hret _ _ _ _ ⟨_, c', oc', vs', tq, (by rw [e0]; rfl), rfl, d8, d9, n4⟩ (by k_asm) (News.d2i (by k_asm))
end
section
local macro_rules | `(tactic| omega) => `(tactic| first | lia | omega (config := {}))
section
open PySem PySem.W PyProof.Rows
set_option Elab.async false
set_option maxRecDepth 100000
/-- m places from i on hold the digits of x, the others stay -/
noncomputable def SetD (p : Int) (ns ns' : List Int) (i m : Nat) (x : Int) : Prop :=
  ns'.length = ns.length ∧ ∀ k, ns'.getD k 0 = if i ≤ k ∧ k < i + m then x / p ^ (k - i) % p else ns.getD k 0
theorem SetD.one {p x : Int} {ns : List Int} {i : Nat} (h0 : 0 ≤ x) (h1 : x < p ^ 1) (hi : i < ns.length) : SetD p ns (ns.set i x) i 1 x := by
  refine ⟨List.length_set, fun k => ?_⟩
  rw [Int.pow_one] at h1
  by_cases hk : k = i
  · subst hk
    rw [if_pos (by omega), Nat.sub_self, Int.pow_zero, Int.ediv_one, Int.emod_eq_of_lt h0 h1]
    simp [List.getD, hi]
  · rw [if_neg (by omega)]
    simp [List.getD, List.getElem?_set_ne (fun e => hk e.symm)]
theorem dig_low {p x : Int} (hp : 0 < p) {a j : Nat} (hj : j < a) : (x % p ^ a) / p ^ j % p = x / p ^ j % p := by
  have e := Int.mul_ediv_add_emod x (p ^ a)
  have e1 : p ^ a = p ^ (a - j - 1) * p * p ^ j := by
    rw [← Int.pow_succ, ← Int.pow_add]; congr 1; omega
  have hpj : (p ^ j : Int) ≠ 0 := Int.ne_of_gt (Int.pow_pos hp)
  have e2 : x = x % p ^ a + (x / p ^ a * p ^ (a - j - 1) * p) * p ^ j := by
    have : x / p ^ a * p ^ (a - j - 1) * p * p ^ j = p ^ a * (x / p ^ a) := by
      rw [Int.mul_assoc, Int.mul_assoc, ← Int.mul_assoc (p ^ (a - j - 1)), ← e1, Int.mul_comm]
    omega
  have e3 : x / p ^ j = (x % p ^ a) / p ^ j + x / p ^ a * p ^ (a - j - 1) * p := by
    have := Int.add_mul_ediv_right (x % p ^ a) (x / p ^ a * p ^ (a - j - 1) * p) hpj
    rw [← e2] at this
    exact this
  rw [e3, Int.add_mul_emod_self_right]
theorem SetD.both {p x lo up : Int} (hp : 0 < p) {ns n1 n2 : List Int} {i a m : Nat} (ha : a ≤ m) (hlo : lo = x % p ^ a) (hup : up = x / p ^ a) (h1 : SetD p ns n1 i a lo) (h2 : SetD p n1 n2 (i + a) (m - a) up) : SetD p ns n2 i m x := by
  refine ⟨h2.1.trans h1.1, fun k => ?_⟩
  rw [h2.2 k, h1.2 k]
  by_cases c1 : i ≤ k ∧ k < i + a
  · rw [if_neg (by omega), if_pos c1, if_pos (by omega), hlo, dig_low hp (by omega)]
  · by_cases c2 : i + a ≤ k ∧ k < i + a + (m - a)
    · rw [if_pos c2, if_pos (by omega), hup, Int.ediv_ediv_of_nonneg (Int.le_of_lt (Int.pow_pos hp)), ← Int.pow_add]
      congr 3
      omega
    · rw [if_neg c2, if_neg c1, if_neg (by omega)]
/-- the first k digits of a -/
noncomputable def digs (p a : Int) (k : Nat) : List Int := (List.range k).map (fun j => a / p ^ j % p)
theorem SetD.all {p x : Int} {ns ns' : List Int} (h : SetD p ns ns' 0 ns.length x) : ns' = digs p x ns.length := by
  refine List.ext_getElem (by simp [digs, h.1]) fun k h1 h2 => ?_
  have e := h.2 k
  have hk : k < ns.length := by rw [← h.1]; exact h1
  rw [if_pos (by omega), Nat.sub_zero] at e
  have e2 : ns'.getD k 0 = ns'[k] := by simp [List.getD, h1]
  rw [← e2, e]
  simp [digs]
/-- how many digits of n bits -/
noncomputable def ndig (a n : Int) : Nat := (((Builtin.Int.intBits a : Int) + n - 1).fdiv n).toNat
/-- what `_int2digits` asks -/
noncomputable def I2D (a n : Int) : Prop := 0 ≤ a ∧ 1 ≤ n ∧ n ≤ 4200 ∧ (Builtin.Int.intBits a : Int) ≤ 6 * n
theorem I2D.num {a n : Int} (h : I2D a n) : 0 ≤ ((Builtin.Int.intBits a : Int) + n - 1).fdiv n ∧ ((Builtin.Int.intBits a : Int) + n - 1).fdiv n ≤ 6 := by
  obtain ⟨h0, h1, h2, h3⟩ := h
  rw [Int.fdiv_eq_ediv_of_nonneg _ (by omega)]
  refine ⟨Int.ediv_nonneg (by omega) (by omega), ?_⟩
  have : ((Builtin.Int.intBits a : Int) + n - 1) / n < 7 := Int.ediv_lt_of_lt_mul (by omega) (by omega)
  omega
theorem I2D.le {a n : Int} (h : I2D a n) : ndig a n ≤ 6 := by have := h.num; unfold ndig; omega
theorem I2D.lt {a n : Int} (h : I2D a n) : a < (2 ^ n.toNat) ^ (ndig a n) := by
  obtain ⟨h0, h1, h2, h3⟩ := id h
  rw [← Int.pow_mul]
  have e := h.num
  refine lt_of_bits ?_
  have e1 := Int.mul_fdiv_add_fmod ((Builtin.Int.intBits a : Int) + n - 1) n
  have e2 := Int.fmod_lt_of_pos ((Builtin.Int.intBits a : Int) + n - 1) (b := n) (by omega)
  have e4 : ((n.toNat * ndig a n : Nat) : Int) = n * ((Builtin.Int.intBits a : Int) + n - 1).fdiv n := by
    rw [Int.natCast_mul, Int.toNat_of_nonneg (by omega)]
    unfold ndig
    rw [Int.toNat_of_nonneg e.1]
  omega
theorem I2D.zero {n : Int} (h : I2D 0 n) : ndig 0 n = 0 := by
  obtain ⟨h0, h1, h2, h3⟩ := h
  have e : (Builtin.Int.intBits 0 : Int) = 0 := rfl
  unfold ndig
  rw [e, Int.fdiv_eq_ediv_of_nonneg _ (by omega), Int.ediv_eq_zero_of_lt (by omega) (by omega)]
  rfl
theorem I2D.pos {a n : Int} (h : I2D a n) (ha : a ≠ 0) : 1 ≤ ndig a n := by
  have h1 := h.lt
  have h2 := h.1
  by_cases hz : ndig a n = 0
  · rw [hz, Int.pow_zero] at h1; omega
  · omega
/-- the halves of x, as `inner` takes them -/
theorem low_half {n x v o : Int} {k : Nat} {sh : Int} (hx : 0 ≤ x) (hsh : sh.toNat = n.toNat * k) (hv : v = x / 2 ^ sh.toNat * 2 ^ sh.toNat) (ho : o = Builtin.bitXor x v) : o = x % (2 ^ n.toNat) ^ k := by
  rw [ho, hv, xor_floor _ hx, hsh, Int.pow_mul]
theorem shift_eq {n mid x sh : Int} {k : Nat} (h1 : 1 ≤ n) (hs : sh = (mid - x) * n) (hk : mid - x = k) : sh.toNat = n.toNat * k := by
  rw [hs, hk, Int.toNat_mul (by omega) (by omega), Int.toNat_natCast, Nat.mul_comm]
theorem half_bnd {n x : Int} {a m : Nat} (ha : a ≤ m) (h0 : 0 ≤ x) (h1 : x < (2 ^ n.toNat) ^ m) : (0 ≤ x % (2 ^ n.toNat) ^ a ∧ x % (2 ^ n.toNat) ^ a < (2 ^ n.toNat) ^ a) ∧ (0 ≤ x / (2 ^ n.toNat) ^ a ∧ x / (2 ^ n.toNat) ^ a < (2 ^ n.toNat) ^ (m - a)) := by
  have hp : (0 : Int) < (2 ^ n.toNat) ^ a := Int.pow_pos (p2_pos _)
  refine ⟨⟨Int.emod_nonneg _ (Int.ne_of_gt hp), Int.emod_lt_of_pos _ hp⟩, Int.ediv_nonneg h0 (Int.le_of_lt hp), Int.ediv_lt_of_lt_mul hp ?_⟩
  rw [← Int.pow_add, show m - a + a = m by omega]
  exact h1
theorem set_ints {vs : List Value} {ns : List Int} (h : IntsAre vs ns) (k : Nat) (x : Int) (t : Tok) : IntsAre (vs.set k (.int x t)) (ns.set k x) := by
  induction h generalizing k with
  | nil => exact .nil
  | cons n u r ih =>
    cases k with
    | zero => exact .cons x t r
    | succ k => exact .cons n u (ih k)
theorem set_def {vs : List Value} {k : Nat} (hk : k < vs.length) (v : Value) : ki_setL vs k v = some (vs.set k v) := by
  induction vs generalizing k with
  | nil => cases hk
  | cons a r ih =>
    cases k with
    | zero => rfl
    | succ k =>
      have := ih (k := k) (by simpa using hk)
      simp only [ki_setL, this, List.set_cons_succ]
theorem digs_bits {n x : Int} {k : Nat} (hn : n ≤ 4200) (hk : k ≤ 6) (h0 : 0 ≤ x) (h1 : x < (2 ^ n.toNat) ^ k) : Builtin.Int.intBits x ≤ 25200 := by
  rw [← Int.pow_mul] at h1
  have h4 : n.toNat * k ≤ 4200 * 6 := Nat.mul_le_mul (by omega) hk
  exact Nat.le_trans (bits_of_lt h0 h1) h4
theorem shift_bnd2 {n mid x sh : Int} (a1 : 1 ≤ n) (a2 : n ≤ 4200) (hs : sh = (mid - x) * n) (h0 : 0 ≤ mid - x) (h1 : mid - x ≤ 6) : 0 ≤ sh ∧ sh ≤ 25200 := by
  have e1 : 0 ≤ (mid - x) * n := Int.mul_nonneg h0 (by omega)
  have e2 : (mid - x) * n ≤ 6 * n := Int.mul_le_mul_of_nonneg_right h1 (by omega)
  omega
theorem News.i2d1 {h₀ h : Heap} {L : Addr} {a b c d e f g p : Addr × Obj} {l : List (Addr × Obj)} (N : News h₀ L h (a :: b :: c :: d :: e :: f :: g :: p :: l)) : ∃ ld, ld = a :: b :: e :: f :: g :: p :: l ∧ News h₀ L h (c :: ld) := ⟨_, rfl, News.sub N (fun q hq => by
  rcases List.mem_cons.mp hq with rfl | hq
  · exact .tail _ (.tail _ (.head _))
  rcases List.mem_cons.mp hq with rfl | hq
  · exact .head _
  rcases List.mem_cons.mp hq with rfl | hq
  · exact .tail _ (.head _)
  exact .tail _ (.tail _ (.tail _ (.tail _ hq))))⟩
theorem News.i2d2 {h₀ h : Heap} {L : Addr} {a b c e f g p : Addr × Obj} {l : List (Addr × Obj)} (N : News h₀ L h (c :: a :: b :: e :: f :: g :: p :: l)) : News h₀ L h (c :: b :: p :: l) := News.sub N (fun q hq => by
  rcases List.mem_cons.mp hq with rfl | hq
  · exact .head _
  rcases List.mem_cons.mp hq with rfl | hq
  · exact .tail _ (.tail _ (.head _))
  exact .tail _ (.tail _ (.tail _ (.tail _ (.tail _ (.tail _ hq))))))
end
end
section
open PySem PySem.W PyProof.Rows
set_option Elab.async false
set_option maxRecDepth 100000
set_option maxHeartbeats 8000000
local macro_rules | `(tactic| k_mem) => `(tactic| ((repeat (first | with_reducible assumption | with_reducible refine List.mem_cons_of_mem _ ?_)); done))
local macro_rules | `(tactic| is_list) => `(tactic| exact News.isList (by k_asm) (by (repeat (first | assumption | with_reducible refine List.mem_cons_of_mem _ ?_)); done))
local macro_rules | `(tactic| k_all) => `(tactic| exact off1_ne (by assumption))
local macro_rules | `(tactic| k_all) => `(tactic| exact my_ne_up (by assumption) (by omega))
local macro_rules | `(tactic| walk_at "exec FunctionDef") => `(tactic| (k_here; refine mark_of ?_))
local macro_rules | `(tactic| walk_at "call ref") => `(tactic| (k_here; refine mark_of ?_))
local macro_rules | `(tactic| walk_at "binaryOp RShift int int") => `(tactic| (k_here; refine mark_of ?_))
local macro_rules | `(tactic| walk_at "binaryOp LShift int int") => `(tactic| (k_here; refine mark_of ?_))
local macro_rules | `(tactic| walk_at "binaryOp Mult int int") => `(tactic| (k_here; refine mark_of ?_))
local macro_rules | `(tactic| walk_at "binaryOp Mult ref int") => `(tactic| (k_here; refine mark_of ?_))
local macro_rules | `(tactic| walk_at "binaryOp FloorDiv int int") => `(tactic| (k_here; refine mark_of ?_))
local macro_rules | `(tactic| walk_at "binaryOp BitXor int int") => `(tactic| (k_here; refine mark_of ?_))
local macro_rules | `(tactic| walk_at "setItem ref int") => `(tactic| (k_here; refine mark_of ?_))
theorem i2d_core {w : World} {loose : List Str} {mean : ExcName → Option Value} {mg mb : Str → Option Value} (a n : Int) (ps : Array Value) (rest : List (Addr × Obj)) (t1 t2 : Tok) :
    ConX w loose mean mg mb 51 440 3000 (fun base news => CodeHd base 50 46 ∧ news = (46, tabObj ps) :: rest ∧ LCg.Off1 46 rest ∧ Tab 56 4 (Str.ofString "_int2digits.<locals>.inner") ps rest ∧ I2D a n) [.int a t1, .int n t2] [] (fun news v news' => ∃ D vs e c' oc vs' t', v = .ref D ∧ news' = (D, listOf vs.toArray e) :: (c', oc) :: (46, tabObj #[rawInt (56 : Nat), rawInt (4 : Nat), .ref c']) :: rest ∧ IntsAre vs (digs (2 ^ n.toNat) a (ndig a n)) ∧ oc.data = .fields vs' ∧ vs'[1]? = some (.str (Str.ofString "_int2digits.<locals>.inner") t') ∧ @Ne Nat c' 46 ∧ @Ne Nat c' D ∧ AllLt D rest ∧ @LT.lt Nat _ 46 D) := by
  refine ConX.intro ?_
  k_fill
  intros
  rename_i hp hret
  (try dsimp only at hret)
  (try dsimp only at hp)
  obtain ⟨hC, rfl, hO, hT, hI⟩ := hp
  refine wpAny_call ?_
  k_with_none
  k_dflt (refine' code_defC ?k1 ?k2 ?k3 ?k4 ?k5 ?kA ?kF ?kK ?k6 ?k7 ?k8 ?k9 ?kB ?kD ?_ ?c2 ?c3 ?c4; (case kA => exact rfl); (case kF => exact rfl); (case kK => assumption); (case k1 => k_asm); (case k2 => k_asm); (case k3 => k_asm); (case k4 => k_asm); (case k5 => k_asm); (case k6 => k_is); (case k7 => k_is); (case k8 => ktr_room); (case k9 => exact BindsTo.of_eq rfl); (case kB => exact rfl); (case kD => decide +kernel); (case c2 => exact rfl); (case c3 => exact rfl); (case c4 => exact rfl); k_whole; intro g' L' h' tk' cells' FG' F' N' Y' B' X' T' l1; (try k_lt l1); k_cells Y'; (try simp only [List.cons_append, List.nil_append] at N'); (try dsimp only); (try k_lift B'); (try k_fold))
  have hA9 : AllLt _ _ := l1.2
  w_strict (repeat' (first | (k_unfold; (try dsimp only)) | (with_reducible (k_here; (with_reducible show wpAny _ _ (call (Value.builtin _) [Value.ref _]) _ _ _); refine len_ints (by is_list) (by assumption) (by assumption) ?_)) | (with_reducible (k_here; (with_reducible show wpAny _ _ (storeName _ _ _) _ _ _); k_dflt ((first | refine' stI ?F ?N ?_ ?a ?b | refine' stS ?F ?N ?_ ?a ?b | refine' stA ?F ?N ?_ ?a ?b); (case F => k_asm); (case N => k_asm); (case a => exact Eq.refl ScopeKind.function); (case b => exact Eq.refl (some NameKind.local)); k_whole; intro hqi tqi uqi Fqi Nqi; (try k_sweep)))) | (with_reducible (k_here; (with_reducible show wpAny _ _ (eval (Expr.Name _ _) _) _ _ _); k_dflt (refine' nameX_L ?F ?v ?_ ?a ?b ?d; (case F => k_asm); (case a => exact Eq.refl ScopeKind.function); (case b => exact Eq.refl (some NameKind.local)); (case d => exact Eq.refl false); (case v => exact Eq.refl (some _)); k_whole))) | (k_end; wrow_close) | walk1 | (dsimp only; walk1) | (leave1; walk_say "STEP leave1"; try dsimp only)))
  refine mark_in (bfdiv (by have := hI.2.1; omega) (by have := hI.2.1; have := hI.2.2.1; exact Nat.lt_of_lt_of_le (log2_of_bits (k := 64) (intBits_le_64 (by omega) (by omega)) (by omega)) (by decide)) ?_)
  intro nd hnd
  try dsimp only
  w_strict (repeat' (first | (k_unfold; (try dsimp only)) | (with_reducible (k_here; (with_reducible show wpAny _ _ (call (Value.builtin _) [Value.ref _]) _ _ _); refine len_ints (by is_list) (by assumption) (by assumption) ?_)) | (with_reducible (k_here; (with_reducible show wpAny _ _ (storeName _ _ _) _ _ _); k_dflt ((first | refine' stI ?F ?N ?_ ?a ?b | refine' stS ?F ?N ?_ ?a ?b | refine' stA ?F ?N ?_ ?a ?b); (case F => k_asm); (case N => k_asm); (case a => exact Eq.refl ScopeKind.function); (case b => exact Eq.refl (some NameKind.local)); k_whole; intro hqi tqi uqi Fqi Nqi; (try k_sweep)))) | (with_reducible (k_here; (with_reducible show wpAny _ _ (eval (Expr.Name _ _) _) _ _ _); k_dflt (refine' nameX_L ?F ?v ?_ ?a ?b ?d; (case F => k_asm); (case a => exact Eq.refl ScopeKind.function); (case b => exact Eq.refl (some NameKind.local)); (case d => exact Eq.refl false); (case v => exact Eq.refl (some _)); k_whole))) | (k_end; wrow_close) | walk1 | (dsimp only; walk1) | (leave1; walk_say "STEP leave1"; try dsimp only)))
  obtain ⟨hn0, hn6⟩ := hI.num
  rw [← hnd] at hn0 hn6
  refine mark_in (KM.mul (by k_asm) (by k_asm) (News.isList (by k_asm) (.head _)) (.cons 0 _ .nil) (by omega) (by omega) (by show 1 * nd.toNat ≤ _; omega) ?_)
  intro D h4 F4 N4 l4 i4 nn e4 e5 e6 e7
  have hnn : nn = ndig a n := by
    have : ((([0] : List Int).length : Nat) : Int) = 1 := rfl
    unfold ndig
    rw [← hnd]
    have e8 := e7 hn0
    rw [this, Int.one_mul] at e8
    omega
  clear e7 e6 e4
  have hni := hI.le
  generalize (List.replicate nd.toNat [Value.int 0 _]).flatten = vs0 at *
  generalize (List.replicate nd.toNat [(0 : Int)]).flatten = ns0 at *
  have hsh0 : ns0.length ≤ 1000 := by omega
  (try k_lt l4)
  try dsimp only
  w_strict (repeat' (first | (k_unfold; (try dsimp only)) | (with_reducible (k_here; (with_reducible show wpAny _ _ (call (Value.builtin _) [Value.ref _]) _ _ _); refine len_ints (by is_list) (by assumption) (by assumption) ?_)) | (with_reducible (k_here; (with_reducible show wpAny _ _ (storeName _ _ _) _ _ _); k_dflt ((first | refine' stI ?F ?N ?_ ?a ?b | refine' stS ?F ?N ?_ ?a ?b | refine' stA ?F ?N ?_ ?a ?b); (case F => k_asm); (case N => k_asm); (case a => exact Eq.refl ScopeKind.function); (case b => exact Eq.refl (some NameKind.local)); k_whole; intro hqi tqi uqi Fqi Nqi; (try k_sweep)))) | (with_reducible (k_here; (with_reducible show wpAny _ _ (eval (Expr.Name _ _) _) _ _ _); k_dflt (refine' nameX_L ?F ?v ?_ ?a ?b ?d; (case F => k_asm); (case a => exact Eq.refl ScopeKind.function); (case b => exact Eq.refl (some NameKind.local)); (case d => exact Eq.refl false); (case v => exact Eq.refl (some _)); k_whole))) | (k_end; wrow_close) | walk1 | (dsimp only; walk1) | (leave1; walk_say "STEP leave1"; try dsimp only)))
  refine mark_in (nestDef_K rfl rfl rfl ?_)
  refine' nest_any [D, L' + 1 + 1 + 1, L' + 1 + 1, L' + 1, 46] ?F ?N ?T ?C rfl ?U hT ?hr ?hx1 ?hx2 rfl ?_
  case F => k_asm
  case N => k_asm
  case T => k_asm
  case C => kn_code
  case U => k_updF
  case hr => exact fun q hq => .tail _ (.tail _ (.tail _ (.tail _ (.tail _ (.tail _ hq)))))
  case hx1 => exact List.forall_mem_cons.mpr ⟨⟨_, .head _⟩, List.forall_mem_cons.mpr ⟨⟨_, .tail _ (.tail _ (.head _))⟩, List.forall_mem_cons.mpr ⟨⟨_, .tail _ (.tail _ (.tail _ (.head _)))⟩, List.forall_mem_cons.mpr ⟨⟨_, .tail _ (.tail _ (.tail _ (.tail _ (.head _))))⟩, List.forall_mem_cons.mpr ⟨⟨_, .tail _ (.tail _ (.tail _ (.tail _ (.tail _ (.head _)))))⟩, fun _ h => nomatch h⟩⟩⟩⟩⟩
  case hx2 => exact List.forall_mem_cons.mpr ⟨my_ne_up hA9 (by omega), List.forall_mem_cons.mpr ⟨my_ne_up hA9 (by omega), List.forall_mem_cons.mpr ⟨my_ne_up hA9 (by omega), List.forall_mem_cons.mpr ⟨my_ne_up hA9 (by omega), List.forall_mem_cons.mpr ⟨off1_ne hO, fun _ h => nomatch h⟩⟩⟩⟩⟩
  intro f' c' oc' vs' tq ct' dc' h5 tk5 F5 N5 d8 d9 l5 l6 hne
  try k_lt l5
  have n0 : @Ne Nat c' D := hne _ (.head _)
  have n1 : @Ne Nat c' (L' + 1 + 1 + 1) := hne _ (.tail _ (.head _))
  have n2 : @Ne Nat c' (L' + 1 + 1) := hne _ (.tail _ (.tail _ (.head _)))
  have n3 : @Ne Nat c' (L' + 1) := hne _ (.tail _ (.tail _ (.tail _ (.head _))))
  have n4 : @Ne Nat c' 46 := hne _ (.tail _ (.tail _ (.tail _ (.tail _ (.head _)))))
  have n5 : @LT.lt Nat _ c' f' := l6
  clear hne
  try dsimp only
  w_strict (repeat' (first | (k_unfold; (try dsimp only)) | (with_reducible (k_here; (with_reducible show wpAny _ _ (call (Value.builtin _) [Value.ref _]) _ _ _); refine len_ints (by is_list) (by assumption) (by assumption) ?_)) | (with_reducible (k_here; (with_reducible show wpAny _ _ (storeName _ _ _) _ _ _); k_dflt ((first | refine' stI ?F ?N ?_ ?a ?b | refine' stS ?F ?N ?_ ?a ?b | refine' stA ?F ?N ?_ ?a ?b); (case F => k_asm); (case N => k_asm); (case a => exact Eq.refl ScopeKind.function); (case b => exact Eq.refl (some NameKind.local)); k_whole; intro hqi tqi uqi Fqi Nqi; (try k_sweep)))) | (with_reducible (k_here; (with_reducible show wpAny _ _ (eval (Expr.Name _ _) _) _ _ _); k_dflt (refine' nameX_L ?F ?v ?_ ?a ?b ?d; (case F => k_asm); (case a => exact Eq.refl ScopeKind.function); (case b => exact Eq.refl (some NameKind.local)); (case d => exact Eq.refl false); (case v => exact Eq.refl (some _)); k_whole))) | (k_end; wrow_close) | walk1 | (dsimp only; walk1) | (leave1; walk_say "STEP leave1"; try dsimp only)))
  · (with_reducible rename News _ _ _ _ => kN; with_reducible rename Fr _ _ _ _ => kF)
    obtain ⟨ld, hld, kN1⟩ := News.i2d1 kN
    clear kN
    have hOD : LCg.Off1 D ld := by
      rw [hld]
      refine ⟨?_, n0, ?_, ?_, ?_, ?_, off1_of_allLt l4.2.2.2.2.2⟩
      · exact Nat.ne_of_gt l5.1
      · exact Nat.ne_of_lt l4.2.1
      · exact Nat.ne_of_lt l4.2.2.1
      · exact Nat.ne_of_lt l4.2.2.2.1
      · exact Nat.ne_of_lt l4.2.2.2.2.1
    have key : ∀ (m i : Nat) (b x y : Int) (u0 u1 u2 : Tok) (vs : List Value) (ns : List Int) (e : Nat), 1 ≤ m → m ≤ 6 → i + m ≤ ns.length → ns.length ≤ 6 → x = i → y = i + m → 0 ≤ b → b < (2 ^ n.toNat) ^ m → IntsAre vs ns →
        ConX w loose mean mg mb f' (600 - 20 * m) (4000 - 100 * m) (fun _ nw => nw = (D, listOf vs.toArray e) :: ld) [.int b u0, .int x u1, .int y u2] [] (fun _ v nw' => v = .none ∧ ∃ vs' ns' e', nw' = (D, listOf vs'.toArray e') :: ld ∧ IntsAre vs' ns' ∧ SetD (2 ^ n.toNat) ns ns' i m b) := by
      intro m
      induction m using Nat.strongRecOn with
      | ind m ih =>
      intro i b x y u0 u1 u2 vs ns e hm1 hm2 him hns hx hy hb0 hb1 hi
      have hI1 := hI.2.1
      have hI2 := hI.2.2.1
      obtain ⟨lc, hlc⟩ : ∃ lc, lc = ld := ⟨_, rfl⟩
      have hm9 : ∀ q ∈ ld, q ∈ lc := by rw [hlc]; exact fun q h => h
      rw [hld] at hm9
      rw [hlc] at hm9
      have m1 := hm9 _ (.head _)
      have m2 := hm9 _ (.tail _ (.head _))
      have m3 := hm9 _ (.tail _ (.tail _ (.head _)))
      have m4 := hm9 _ (.tail _ (.tail _ (.tail _ (.head _))))
      have m5 := hm9 _ (.tail _ (.tail _ (.tail _ (.tail _ (.head _)))))
      clear hm9 hlc
      clear hld
      refine ConX.intro ?_
      k_fill
      intros
      rename_i hp hret
      subst hp
      (try dsimp only at hret)
      refine wpAny_call ?_
      k_with_none
      k_dflt (refine' code_nest ?k1 ?k2 ?k3 ?k4 ?k5 ?kA ?kF ?kK ?k6 ?k7 ?k8 ?k9 ?kB ?_ ?c2 ?c3 ?c4 ?c5; (case kA => exact rfl); (case kF => exact rfl); (case kK => assumption); (case k1 => k_asm); (case k2 => k_asm); (case k3 => k_asm); (case k4 => k_asm); (case k5 => k_asm); (case k6 => exact .tail _ m1); (case k7 => exact codeRec_news (by k_asm) (.tail _ m2) d8 d9); (case k8 => ktr_room); (case k9 => exact BindsTo.of_eq rfl); (case c5 => decide); (case kB => exact locs rfl); (case c2 => exact rfl); (case c3 => exact rfl); (case c4 => exact rfl); k_whole; intro g2' L2' h2' FG2' F2' N2' B2' X2' T2'; (try dsimp only); (try k_lift B2'); (try k_fold))
      w_strict (repeat' (first | (k_unfold; (try dsimp only)) | (with_reducible (k_here; (with_reducible show wpAny _ _ (call (Value.builtin _) [Value.ref _]) _ _ _); refine len_ints (by is_list) (by assumption) (by assumption) ?_)) | (with_reducible (k_here; (with_reducible show wpAny _ _ (storeName _ _ _) _ _ _); k_dflt ((first | refine' stI ?F ?N ?_ ?a ?b | refine' stS ?F ?N ?_ ?a ?b | refine' stA ?F ?N ?_ ?a ?b); (case F => k_asm); (case N => k_asm); (case a => exact Eq.refl ScopeKind.function); (case b => exact Eq.refl (some NameKind.local)); k_whole; intro hqi tqi uqi Fqi Nqi; (try k_sweep)))) | (with_reducible (k_here; (with_reducible show wpAny _ _ (eval (Expr.Name _ _) _) _ _ _); k_dflt (refine' nameX_L ?F ?v ?_ ?a ?b ?d; (case F => k_asm); (case a => exact Eq.refl ScopeKind.function); (case b => exact Eq.refl (some NameKind.local)); (case d => exact Eq.refl false); (case v => exact Eq.refl (some _)); k_whole))) | (k_end; wrow_close) | walk1 | (dsimp only; walk1) | (leave1; walk_say "STEP leave1"; try dsimp only)))
      · have hm1 : m = 1 := by omega
        subst hm1
        refine mark_in ?_
        k_dflt (refine' ki_set (q := vs.set x.toNat (Value.int b u0)) ?F ?N ?a ?b ?e ?U ?_; (case F => k_asm); (case N => k_asm); (case U => k_upd); (case a => omega); (case b => omega); (case e => exact set_def (by rw [hi.length]; omega) _))
        intro h6 F6 N6
        (try dsimp only [List.nil_append, List.cons_append] at N6)
        try dsimp only
        w_strict (repeat' (first | (k_unfold; (try dsimp only)) | (with_reducible (k_here; (with_reducible show wpAny _ _ (call (Value.builtin _) [Value.ref _]) _ _ _); refine len_ints (by is_list) (by assumption) (by assumption) ?_)) | (with_reducible (k_here; (with_reducible show wpAny _ _ (storeName _ _ _) _ _ _); k_dflt ((first | refine' stI ?F ?N ?_ ?a ?b | refine' stS ?F ?N ?_ ?a ?b | refine' stA ?F ?N ?_ ?a ?b); (case F => k_asm); (case N => k_asm); (case a => exact Eq.refl ScopeKind.function); (case b => exact Eq.refl (some NameKind.local)); k_whole; intro hqi tqi uqi Fqi Nqi; (try k_sweep)))) | (with_reducible (k_here; (with_reducible show wpAny _ _ (eval (Expr.Name _ _) _) _ _ _); k_dflt (refine' nameX_L ?F ?v ?_ ?a ?b ?d; (case F => k_asm); (case a => exact Eq.refl ScopeKind.function); (case b => exact Eq.refl (some NameKind.local)); (case d => exact Eq.refl false); (case v => exact Eq.refl (some _)); k_whole))) | (k_end; wrow_close) | walk1 | (dsimp only; walk1) | (leave1; walk_say "STEP leave1"; try dsimp only)))
        refine hret _ _ _ _ ⟨rfl, _, ns.set x.toNat b, _, rfl, set_ints hi _ _ _, ?_⟩ (by k_asm) (by k_asm)
        subst hx
        rw [Int.toNat_natCast]
        exact SetD.one hb0 hb1 (by omega)
      · refine mark_in (bshr (p := 2) rfl (by decide) ?_)
        intro mid hmid
        try dsimp only
        w_strict (repeat' (first | (k_unfold; (try dsimp only)) | (with_reducible (k_here; (with_reducible show wpAny _ _ (call (Value.builtin _) [Value.ref _]) _ _ _); refine len_ints (by is_list) (by assumption) (by assumption) ?_)) | (with_reducible (k_here; (with_reducible show wpAny _ _ (storeName _ _ _) _ _ _); k_dflt ((first | refine' stI ?F ?N ?_ ?a ?b | refine' stS ?F ?N ?_ ?a ?b | refine' stA ?F ?N ?_ ?a ?b); (case F => k_asm); (case N => k_asm); (case a => exact Eq.refl ScopeKind.function); (case b => exact Eq.refl (some NameKind.local)); k_whole; intro hqi tqi uqi Fqi Nqi; (try k_sweep)))) | (with_reducible (k_here; (with_reducible show wpAny _ _ (eval (Expr.Name _ _) _) _ _ _); k_dflt (refine' nameX_L ?F ?v ?_ ?a ?b ?d; (case F => k_asm); (case a => exact Eq.refl ScopeKind.function); (case b => exact Eq.refl (some NameKind.local)); (case d => exact Eq.refl false); (case v => exact Eq.refl (some _)); k_whole))) | (k_end; wrow_close) | walk1 | (dsimp only; walk1) | (leave1; walk_say "STEP leave1"; try dsimp only)))
        obtain ⟨⟨⟨e01, e02, e03, e04, e05⟩, ⟨e06, e07, e08, e09, e10, e11⟩⟩, ⟨e12, e13, e14⟩, ⟨e15, e16⟩, ⟨e17, e18, e19, e20, e21⟩⟩ := half_int (m := m) (i := i) (k := ns.length) (by assumption) (by assumption) (by assumption) hx hy hmid (by assumption)
        refine mark_in (bmul 64 64 (intBits_le_64 (by omega) (by omega)) (intBits_le_64 (by omega) (by omega)) (by decide) ?_)
        intro sh hsh
        obtain ⟨hs0, hs1⟩ := shift_bnd2 hI1 hI2 hsh (by omega) (by omega)
        have hse := shift_eq (k := m / 2) hI1 hsh (by omega)
        obtain ⟨⟨f1, f2⟩, f3, f4⟩ := half_bnd (a := m / 2) (by omega) hb0 hb1
        try dsimp only
        w_strict (repeat' (first | (k_unfold; (try dsimp only)) | (with_reducible (k_here; (with_reducible show wpAny _ _ (call (Value.builtin _) [Value.ref _]) _ _ _); refine len_ints (by is_list) (by assumption) (by assumption) ?_)) | (with_reducible (k_here; (with_reducible show wpAny _ _ (storeName _ _ _) _ _ _); k_dflt ((first | refine' stI ?F ?N ?_ ?a ?b | refine' stS ?F ?N ?_ ?a ?b | refine' stA ?F ?N ?_ ?a ?b); (case F => k_asm); (case N => k_asm); (case a => exact Eq.refl ScopeKind.function); (case b => exact Eq.refl (some NameKind.local)); k_whole; intro hqi tqi uqi Fqi Nqi; (try k_sweep)))) | (with_reducible (k_here; (with_reducible show wpAny _ _ (eval (Expr.Name _ _) _) _ _ _); k_dflt (refine' nameX_L ?F ?v ?_ ?a ?b ?d; (case F => k_asm); (case a => exact Eq.refl ScopeKind.function); (case b => exact Eq.refl (some NameKind.local)); (case d => exact Eq.refl false); (case v => exact Eq.refl (some _)); k_whole))) | (k_end; wrow_close) | walk1 | (dsimp only; walk1) | (leave1; walk_say "STEP leave1"; try dsimp only)))
        refine mark_in (bshr (p := 2 ^ sh.toNat) rfl hs0 ?_)
        intro up hup
        try dsimp only
        have hup' : up = b / (2 ^ n.toNat) ^ (m / 2) := by rw [hup, hse, Int.pow_mul]
        rw [← hup'] at f3 f4
        w_strict (repeat' (first | (k_unfold; (try dsimp only)) | (with_reducible (k_here; (with_reducible show wpAny _ _ (call (Value.builtin _) [Value.ref _]) _ _ _); refine len_ints (by is_list) (by assumption) (by assumption) ?_)) | (with_reducible (k_here; (with_reducible show wpAny _ _ (storeName _ _ _) _ _ _); k_dflt ((first | refine' stI ?F ?N ?_ ?a ?b | refine' stS ?F ?N ?_ ?a ?b | refine' stA ?F ?N ?_ ?a ?b); (case F => k_asm); (case N => k_asm); (case a => exact Eq.refl ScopeKind.function); (case b => exact Eq.refl (some NameKind.local)); k_whole; intro hqi tqi uqi Fqi Nqi; (try k_sweep)))) | (with_reducible (k_here; (with_reducible show wpAny _ _ (eval (Expr.Name _ _) _) _ _ _); k_dflt (refine' nameX_L ?F ?v ?_ ?a ?b ?d; (case F => k_asm); (case a => exact Eq.refl ScopeKind.function); (case b => exact Eq.refl (some NameKind.local)); (case d => exact Eq.refl false); (case v => exact Eq.refl (some _)); k_whole))) | (k_end; wrow_close) | walk1 | (dsimp only; walk1) | (leave1; walk_say "STEP leave1"; try dsimp only)))
        refine mark_in (bshl (p := 2 ^ sh.toNat) rfl hs0 25200 (digs_bits hI2 (by omega) f3 f4) (by omega) ?_)
        intro v2 hv2
        try dsimp only
        w_strict (repeat' (first | (k_unfold; (try dsimp only)) | (with_reducible (k_here; (with_reducible show wpAny _ _ (call (Value.builtin _) [Value.ref _]) _ _ _); refine len_ints (by is_list) (by assumption) (by assumption) ?_)) | (with_reducible (k_here; (with_reducible show wpAny _ _ (storeName _ _ _) _ _ _); k_dflt ((first | refine' stI ?F ?N ?_ ?a ?b | refine' stS ?F ?N ?_ ?a ?b | refine' stA ?F ?N ?_ ?a ?b); (case F => k_asm); (case N => k_asm); (case a => exact Eq.refl ScopeKind.function); (case b => exact Eq.refl (some NameKind.local)); k_whole; intro hqi tqi uqi Fqi Nqi; (try k_sweep)))) | (with_reducible (k_here; (with_reducible show wpAny _ _ (eval (Expr.Name _ _) _) _ _ _); k_dflt (refine' nameX_L ?F ?v ?_ ?a ?b ?d; (case F => k_asm); (case a => exact Eq.refl ScopeKind.function); (case b => exact Eq.refl (some NameKind.local)); (case d => exact Eq.refl false); (case v => exact Eq.refl (some _)); k_whole))) | (k_end; wrow_close) | walk1 | (dsimp only; walk1) | (leave1; walk_say "STEP leave1"; try dsimp only)))
        refine mark_in (bxor ?_)
        intro lo hlo
        have hlo' := low_half hb0 hse (by rw [hv2, hup]) hlo
        rw [← hlo'] at f1 f2
        try dsimp only
        w_strict (repeat' (first | (k_unfold; (try dsimp only)) | (with_reducible (k_here; (with_reducible show wpAny _ _ (call (Value.builtin _) [Value.ref _]) _ _ _); refine len_ints (by is_list) (by assumption) (by assumption) ?_)) | (with_reducible (k_here; (with_reducible show wpAny _ _ (storeName _ _ _) _ _ _); k_dflt ((first | refine' stI ?F ?N ?_ ?a ?b | refine' stS ?F ?N ?_ ?a ?b | refine' stA ?F ?N ?_ ?a ?b); (case F => k_asm); (case N => k_asm); (case a => exact Eq.refl ScopeKind.function); (case b => exact Eq.refl (some NameKind.local)); k_whole; intro hqi tqi uqi Fqi Nqi; (try k_sweep)))) | (with_reducible (k_here; (with_reducible show wpAny _ _ (eval (Expr.Name _ _) _) _ _ _); k_dflt (refine' nameX_L ?F ?v ?_ ?a ?b ?d; (case F => k_asm); (case a => exact Eq.refl ScopeKind.function); (case b => exact Eq.refl (some NameKind.local)); (case d => exact Eq.refl false); (case v => exact Eq.refl (some _)); k_whole))) | (k_end; wrow_close) | walk1 | (dsimp only; walk1) | (leave1; walk_say "STEP leave1"; try dsimp only)))
        refine mark_in ?_
        k_dflt (refine' (ih (m / 2) ?q0 i lo x mid _ _ _ vs ns e ?q1 ?q2 ?q3 ?q4 ?q5 ?q6 ?q7 ?q8 ?q9).use ?k1 ?k2 ?k3 ?k4 ?k5 ?kK ?kp ?kd ?ku ?_; (case q0 => omega); (case q1 => omega); (case q2 => omega); (case q3 => omega); (case q4 => omega); (case q5 => omega); (case q6 => omega); (case k1 => k_asm); (case k2 => k_asm); (case k3 => k_asm); (case k4 => k_asm); (case k5 => k_asm); (case kK => first | exact rfl | assumption))
        case q7 => exact f1
        case q8 => exact f2
        case q9 => exact hi
        case kp => rfl
        case kd => first | exact e04 | exact e09
        case ku => first | exact e05 | exact e10
        intro v3 h3 tk3 nw3 hp3 F3 N3
        obtain ⟨e3, vs3, ns3, c3, e3', hi3, hS3⟩ := hp3
        subst e3
        subst e3'
        have hl3 := hS3.1
        try dsimp only
        w_strict (repeat' (first | (k_unfold; (try dsimp only)) | (with_reducible (k_here; (with_reducible show wpAny _ _ (call (Value.builtin _) [Value.ref _]) _ _ _); refine len_ints (by is_list) (by assumption) (by assumption) ?_)) | (with_reducible (k_here; (with_reducible show wpAny _ _ (storeName _ _ _) _ _ _); k_dflt ((first | refine' stI ?F ?N ?_ ?a ?b | refine' stS ?F ?N ?_ ?a ?b | refine' stA ?F ?N ?_ ?a ?b); (case F => k_asm); (case N => k_asm); (case a => exact Eq.refl ScopeKind.function); (case b => exact Eq.refl (some NameKind.local)); k_whole; intro hqi tqi uqi Fqi Nqi; (try k_sweep)))) | (with_reducible (k_here; (with_reducible show wpAny _ _ (eval (Expr.Name _ _) _) _ _ _); k_dflt (refine' nameX_L ?F ?v ?_ ?a ?b ?d; (case F => k_asm); (case a => exact Eq.refl ScopeKind.function); (case b => exact Eq.refl (some NameKind.local)); (case d => exact Eq.refl false); (case v => exact Eq.refl (some _)); k_whole))) | (k_end; wrow_close) | walk1 | (dsimp only; walk1) | (leave1; walk_say "STEP leave1"; try dsimp only)))
        refine mark_in ?_
        k_dflt (refine' (ih (m - m / 2) ?q0 (i + m / 2) up mid y _ _ _ vs3 ns3 c3 ?q1 ?q2 ?q3 ?q4 ?q5 ?q6 ?q7 ?q8 ?q9).use ?k1 ?k2 ?k3 ?k4 ?k5 ?kK ?kp ?kd ?ku ?_; (case q0 => omega); (case q1 => omega); (case q2 => omega); (case q3 => omega); (case q4 => omega); (case q5 => omega); (case q6 => omega); (case k1 => k_asm); (case k2 => k_asm); (case k3 => k_asm); (case k4 => k_asm); (case k5 => k_asm); (case kK => first | exact rfl | assumption))
        case q7 => exact f3
        case q8 => exact f4
        case q9 => exact hi3
        case kp => rfl
        case kd => first | exact e04 | exact e09
        case ku => first | exact e05 | exact e10
        intro v4 h4 tk4 nw4 hp4 F4 N4
        obtain ⟨e4, vs4, ns4, c4, e4', hi4, hS4⟩ := hp4
        subst e4
        subst e4'
        try dsimp only
        w_strict (repeat' (first | (k_unfold; (try dsimp only)) | (with_reducible (k_here; (with_reducible show wpAny _ _ (call (Value.builtin _) [Value.ref _]) _ _ _); refine len_ints (by is_list) (by assumption) (by assumption) ?_)) | (with_reducible (k_here; (with_reducible show wpAny _ _ (storeName _ _ _) _ _ _); k_dflt ((first | refine' stI ?F ?N ?_ ?a ?b | refine' stS ?F ?N ?_ ?a ?b | refine' stA ?F ?N ?_ ?a ?b); (case F => k_asm); (case N => k_asm); (case a => exact Eq.refl ScopeKind.function); (case b => exact Eq.refl (some NameKind.local)); k_whole; intro hqi tqi uqi Fqi Nqi; (try k_sweep)))) | (with_reducible (k_here; (with_reducible show wpAny _ _ (eval (Expr.Name _ _) _) _ _ _); k_dflt (refine' nameX_L ?F ?v ?_ ?a ?b ?d; (case F => k_asm); (case a => exact Eq.refl ScopeKind.function); (case b => exact Eq.refl (some NameKind.local)); (case d => exact Eq.refl false); (case v => exact Eq.refl (some _)); k_whole))) | (k_end; wrow_close) | walk1 | (dsimp only; walk1) | (leave1; walk_say "STEP leave1"; try dsimp only)))
        refine hret _ _ _ _ ⟨rfl, _, ns4, _, rfl, hi4, SetD.both (p2_pos _) (by omega) hlo' hup' hS3 hS4⟩ (by k_asm) (by k_asm)
    have ha0 : a ≠ 0 := by assumption
    have hk1 := hI.pos ha0
    have hk2 := hI.lt
    rw [show ndig a n = ns0.length by omega] at hk2
    refine mark_in ?_
    k_dflt (refine' (key ns0.length 0 a 0 ns0.length _ _ _ vs0 ns0 0 ?q1 ?q2 ?q3 ?q4 ?q5 ?q6 ?q7 ?q8 ?q9).use ?k1 ?k2 ?k3 ?k4 ?k5 ?kK ?kp ?kd ?ku ?_)
    case q1 => omega
    case q2 => omega
    case q3 => omega
    case q4 => omega
    case q5 => rfl
    case q6 => omega
    case q7 => exact hI.1
    case q8 => exact hk2
    case q9 => exact i4
    case k1 => k_asm
    case k2 => exact kF
    case k3 => k_asm
    case k4 => exact kN1
    case k5 => k_asm
    case kK => exact rfl
    case kp => rfl
    case kd => show 440 + 1 ≤ _; omega
    case ku => show 3000 + 3 ≤ _; omega
    intro v9 h9 tk9 nw9 hp9 F9 N9
    obtain ⟨e9, vs9, ns9, c9, e9', hi9, hS9⟩ := hp9
    subst e9
    subst e9'
    rw [hld] at N9
    clear kN1 kF
    have hd9 := hS9.all
    rw [show ns0.length = ndig a n by omega] at hd9
    rw [hd9] at hi9
    try dsimp only
    w_strict (repeat' (first | (k_unfold; (try dsimp only)) | (with_reducible (k_here; (with_reducible show wpAny _ _ (call (Value.builtin _) [Value.ref _]) _ _ _); refine len_ints (by is_list) (by assumption) (by assumption) ?_)) | (with_reducible (k_here; (with_reducible show wpAny _ _ (storeName _ _ _) _ _ _); k_dflt ((first | refine' stI ?F ?N ?_ ?a ?b | refine' stS ?F ?N ?_ ?a ?b | refine' stA ?F ?N ?_ ?a ?b); (case F => k_asm); (case N => k_asm); (case a => exact Eq.refl ScopeKind.function); (case b => exact Eq.refl (some NameKind.local)); k_whole; intro hqi tqi uqi Fqi Nqi; (try k_sweep)))) | (with_reducible (k_here; (with_reducible show wpAny _ _ (eval (Expr.Name _ _) _) _ _ _); k_dflt (refine' nameX_L ?F ?v ?_ ?a ?b ?d; (case F => k_asm); (case a => exact Eq.refl ScopeKind.function); (case b => exact Eq.refl (some NameKind.local)); (case d => exact Eq.refl false); (case v => exact Eq.refl (some _)); k_whole))) | (k_end; wrow_close) | walk1 | (dsimp only; walk1) | (leave1; walk_say "STEP leave1"; try dsimp only)))
    exact hret _ _ _ _ ⟨D, vs9, c9, c', oc', vs', tq, rfl, rfl, hi9, d8, d9, n4, n0, l4.2.2.2.2.2, l4.2.2.2.2.1⟩ (by k_asm) (News.i2d2 (by k_asm))
  · (with_reducible rename News _ _ _ _ => kN; with_reducible rename Fr _ _ _ _ => kF)
    obtain ⟨ld, hld, kN1⟩ := News.i2d1 kN
    rw [hld] at kN1
    have ha0 : a = 0 := by assumption
    have hz : ndig a n = 0 := by rw [ha0] at hI ⊢; exact hI.zero
    have hi9 : IntsAre vs0 (digs (2 ^ n.toNat) a (ndig a n)) := by
      have : ns0 = [] := List.eq_nil_of_length_eq_zero (by omega)
      rw [hz]
      rw [this] at i4
      exact i4
    exact hret _ _ _ _ ⟨D, vs0, 0, c', oc', vs', tq, rfl, rfl, hi9, d8, d9, n4, n0, l4.2.2.2.2.2, l4.2.2.2.2.1⟩ (by k_asm) (News.i2d2 kN1)
end
section
local macro_rules | `(tactic| omega) => `(tactic| first | lia | omega (config := {}))
section
open PySem PySem.W PyProof.Rows
set_option Elab.async false
set_option maxRecDepth 100000
noncomputable def QD : Str := Str.ofString "_digits2int.<locals>.inner"
noncomputable def QI : Str := Str.ofString "_int2digits.<locals>.inner"
theorem Tab.cons {ln co : Nat} {q : Str} {ps : Array Value} {x : Addr × Obj} {rest : List (Addr × Obj)} (h : Tab ln co q ps rest) : Tab ln co q ps (x :: rest) := by
  rcases h with h | ⟨c, o, vs, t, h1, h2, h3⟩
  · exact .inl h
  · exact .inr ⟨c, o, vs, t, h1, .tail _ h2, h3⟩
theorem News.swap {h₀ h : Heap} {L : Addr} {a b : Addr × Obj} {l : List (Addr × Obj)} (N : News h₀ L h (a :: b :: l)) : News h₀ L h (b :: a :: l) := News.sub N (fun q hq => by
  rcases List.mem_cons.mp hq with rfl | hq
  · exact .tail _ (.head _)
  rcases List.mem_cons.mp hq with rfl | hq
  · exact .head _
  exact .tail _ (.tail _ hq))
/-- what `_divmod_pos` is called with here -/
structure DMP (a b : Int) : Prop where
  a0 : 0 ≤ a
  b0 : 0 < b
  bb : Builtin.Int.intBits b ≤ 4200
  ba : Builtin.Int.intBits a ≤ 3 * Builtin.Int.intBits b
namespace DMP
variable {a b : Int} (h : DMP a b)
include h
theorem n0 : 1 ≤ Builtin.Int.intBits b := by
  have h2 := h.b0
  have h3 : ¬ Builtin.Int.intBits b ≤ 0 := fun h4 => by
    have := lt_of_bits h4
    rw [Int.pow_zero] at this
    omega
  omega
theorem i2d : I2D a (Builtin.Int.intBits b) := by
  have h1 := h.n0
  have h2 := h.bb
  have h3 := h.ba
  exact ⟨h.a0, by omega, by omega, by omega⟩
theorem le3 : ndig a (Builtin.Int.intBits b) ≤ 3 := by
  have h1 := h.n0
  have h3 := h.ba
  have e : ((Builtin.Int.intBits a : Int) + (Builtin.Int.intBits b : Int) - 1).fdiv (Builtin.Int.intBits b) < 4 := by
    rw [Int.fdiv_eq_ediv_of_nonneg _ (by omega)]
    exact Int.ediv_lt_of_lt_mul (by omega) (by omega)
  unfold ndig
  omega
theorem dok {ns : List Int} (hl : ns.length ≤ 6) (hx : ∀ x ∈ ns, 0 ≤ x ∧ x < 2 ^ (Builtin.Int.intBits b)) : DigOk (Builtin.Int.intBits b) ns := by
  have h1 := h.n0
  have h2 := h.bb
  exact ⟨by omega, by omega, hl, by rw [Int.toNat_natCast]; exact hx⟩
theorem d21 {r d x v : Int} (h0 : 0 ≤ r) (h1 : r < b) (hd : 0 ≤ d ∧ d < 2 ^ (Builtin.Int.intBits b)) (hv : v = r * 2 ^ (Builtin.Int.intBits b)) (hx : x = v + d) : D21 x b (Builtin.Int.intBits b) := by
  have h4 := h.bb
  have hp := p2_pos (Builtin.Int.intBits b)
  have e1 : 0 ≤ r * 2 ^ (Builtin.Int.intBits b) := Int.mul_nonneg h0 (Int.le_of_lt hp)
  have e2 : (r + 1) * 2 ^ (Builtin.Int.intBits b) ≤ b * 2 ^ (Builtin.Int.intBits b) := Int.mul_le_mul_of_nonneg_right (by omega) (Int.le_of_lt hp)
  rw [Int.add_mul, Int.one_mul] at e2
  exact ⟨by omega, h.b0, rfl, by omega, by rw [Int.toNat_natCast]; omega⟩
end DMP
/-- one digit of the long division -/
structure Stp (p b A Q R : Int) : Prop where
  e : A = Q * b + R
  r0 : 0 ≤ R
  r1 : R < b
theorem Stp.start {p b : Int} (hb : 0 < b) : Stp p b 0 0 0 := ⟨by omega, by omega, hb⟩
theorem Stp.go {p b A Q R d : Int} (hp : 0 < p) (h : Stp p b A Q R) (hd : 0 ≤ d ∧ d < p) :
    Stp p b (A * p + d) (Q * p + (R * p + d).fdiv b) ((R * p + d).fmod b) ∧ 0 ≤ (R * p + d).fdiv b ∧ (R * p + d).fdiv b < p := by
  have hb : 0 < b := by have := h.r0; have := h.r1; omega
  have k1 := Int.fmod_nonneg_of_pos (R * p + d) hb
  have k2 := Int.fmod_lt_of_pos (R * p + d) hb
  have g1 := Int.mul_fdiv_add_fmod (R * p + d) b
  have m0 : 0 ≤ R * p := Int.mul_nonneg h.r0 (Int.le_of_lt hp)
  have m1 : (R + 1) * p ≤ b * p := Int.mul_le_mul_of_nonneg_right (by have := h.r1; omega) (Int.le_of_lt hp)
  rw [Int.add_mul, Int.one_mul] at m1
  refine ⟨⟨?_, k1, k2⟩, ?_, ?_⟩
  · rw [h.e, Int.add_mul, Int.add_mul, Int.mul_comm _ b]
    have : b * Q * p = Q * p * b := by rw [Int.mul_assoc, Int.mul_comm b]
    rw [this]
    have e3 : b * (R * p + d).fdiv b = (R * p + d).fdiv b * b := Int.mul_comm _ _
    omega
  · rw [Int.fdiv_eq_ediv_of_nonneg _ (Int.le_of_lt hb)]
    exact Int.ediv_nonneg (by omega) (Int.le_of_lt hb)
  · rw [Int.fdiv_eq_ediv_of_nonneg _ (Int.le_of_lt hb)]
    refine Int.ediv_lt_of_lt_mul hb ?_
    rw [Int.mul_comm p b]
    omega
theorem Stp.done {p b A Q R : Int} (h : Stp p b A Q R) : A.fdiv b = Q ∧ A.fmod b = R :=
  div_unique (by have := h.r0; have := h.r1; omega) h.e.symm h.r0 h.r1
theorem dig_step (p a : Int) (k : Nat) (hp : 0 < p) : a / p ^ k = a / p ^ (k + 1) * p + a / p ^ k % p := by
  rw [Int.pow_succ, ← Int.ediv_ediv_of_nonneg (Int.le_of_lt (Int.pow_pos hp)), Int.mul_comm]
  exact (Int.mul_ediv_add_emod _ _).symm
theorem dig_bnd (p a : Int) (hp : 0 < p) : 0 ≤ a % p ∧ a % p < p := ⟨Int.emod_nonneg _ (Int.ne_of_gt hp), Int.emod_lt_of_pos _ hp⟩
theorem ints0 {vs : List Value} (h : IntsAre vs []) : vs = [] := by cases h; rfl
theorem ints1 {vs : List Value} {x : Int} (h : IntsAre vs [x]) : ∃ t1, vs = [.int x t1] := by cases h with | cons _ t h => cases h; exact ⟨t, rfl⟩
theorem ints2 {vs : List Value} {x y : Int} (h : IntsAre vs [x, y]) : ∃ t1 t2, vs = [.int x t1, .int y t2] := by cases h with | cons _ t h => obtain ⟨t2, rfl⟩ := ints1 h; exact ⟨t, t2, rfl⟩
theorem ints3 {vs : List Value} {x y z : Int} (h : IntsAre vs [x, y, z]) : ∃ t1 t2 t3, vs = [.int x t1, .int y t2, .int z t3] := by cases h with | cons _ t h => obtain ⟨t2, t3, rfl⟩ := ints2 h; exact ⟨t, t2, t3, rfl⟩
end
end
section
open PySem PySem.W PyProof.Rows PyProof.V PySem.Spec PySem.Calls
set_option Elab.async false
set_option maxRecDepth 100000
set_option maxHeartbeats 8000000
section
variable {prog : Program} {w : World} {A : Around} {E : Value → Shared → Prop} {s : Shared} {env : Env} {h₀ : Heap} {x : Str} {body : List Stmt} {Q : Flow → Shared → Prop}
/-- a for over reversed(a list), with any state; the list stays -/
theorem my_rev {σ : Type} {ax I : Addr} {lo : Obj} {vs : List Value} {nn : Nat} {m₀ : Str → Option Value} (Led : σ → List (Addr × Obj)) (ps : σ → List (Str × Value)) (stored : List Str) (Inv : Nat → σ → Prop) (c₀ : σ)
    (hh : A.handled = none) (F : Fr h₀ env.locals s.heap m₀) (N : News h₀ env.locals s.heap ((I, revObj ax ((vs.length : Int) - 1)) :: Led c₀)) (hof : ∀ p ∈ Led c₀, p.1 ≠ I) (hm : ∀ c, (ax, lo) ∈ Led c) (hc : lo.cls = .type "list") (hd : lo.data = .seq vs.toArray nn)
    (hk : ∀ p ∈ ps c₀, m₀ p.1 = some p.2) (hp : Inv 0 c₀)
    (turn : ∀ (c : σ) (i : Nat) (v : Value) (u : Str → Option Value) (h : Heap) (tk : Nat) (oI : Obj), i < vs.length → vs[vs.length - 1 - i]? = some v → Inv i c → (∀ p ∈ Led c, p.1 ≠ I) →
      Fr h₀ env.locals h (fun y => if y = x then some v else kstB (fun z => if stored.contains z then u z else m₀ z) (ps c) y) → News h₀ env.locals h ((I, oI) :: Led c) →
      wpAny (model prog w) A (execs body env) (TxPost h₀ env.locals x Led ps stored m₀ (Inv (i + 1)) I oI Q { s with heap := h, toks := tk }) E { s with heap := h, toks := tk })
    (done : ∀ (c : σ) (u : Str → Option Value) (h : Heap) (tk : Nat), Inv vs.length c → Fr h₀ env.locals h (fun y => if y = x then u y else kstB (fun z => if stored.contains z then u z else m₀ z) (ps c) y) → News h₀ env.locals h (Led c) → Q .next { s with heap := h, toks := tk }) :
    wpAny (model prog w) A (pyIter (.ref I)) (fun it s₂ => LoopAtV prog w A h₀ env x body Q E it s₂) E s := by
  have hIx := N _ (List.mem_cons_self ..)
  have hax := N _ (List.mem_cons_of_mem _ (hm c₀))
  have hl : s.heap.IsList ax vs.toArray := ⟨lo, hax.1, hc, nn, hd⟩
  have hne : ax ≠ I := hof _ (hm c₀)
  have hit : s.heap.IsRevIter I ax ((vs.length : Int) - 1) := ⟨_, hIx.1, rfl, rfl⟩
  refine wpAny_pyIter_revIter hit ?_
  have W := Walks.listRev (prog := prog) (w := w) hh I ax hne vs.toArray
  have hlen : vs.toArray.size = vs.length := by simp
  rw [hlen] at W
  let J : Nat → (Str → Option Value) → List (Addr × Obj) → Prop := fun i m nx => ∃ c : σ, nx = Led c ∧ (∀ p ∈ ps c, m p.1 = some p.2) ∧ (∀ z, z ≠ x → (∀ p ∈ ps c, z ≠ p.1) → stored.contains z = false → m z = m₀ z) ∧ Inv i c
  refine ⟨I, _, _, vs.length, _, _, m₀, Led c₀, J, rfl, W, ?_, ?_, ?_, ⟨Nat.zero_le _, ?_, hl⟩, F, (fun p hp => N p (List.mem_cons_of_mem _ hp)), ⟨c₀, rfl, hk, fun _ _ _ _ => rfl, hp⟩, ?_, ?_⟩
  · intro hmm
    rcases List.mem_cons.mp hmm with e | hmm
    · exact hIx.2.1 e.symm
    · exact hax.2.1 (List.mem_singleton.mp hmm).symm
  · intro b hb
    rw [List.mem_singleton.mp hb]
    exact hIx.2.2
  · intro p hp hI
    exact hof p hp (List.mem_singleton.mp hI)
  · have e : (vs.length : Int) - 1 - ((0 : Nat) : Int) = (vs.length : Int) - 1 := by omega
    rw [e]
    exact hit
  · rintro i v m₁ news₁ s₁ own ⟨hh', tk', rfl⟩ hin hP ⟨c, rfl, h1, h2, hInv⟩ hofs hown hget hall hst F₁ N₁
    obtain ⟨it, hit', hic, hid⟩ := hst.2.1
    have hmemI := hall I (List.mem_cons_self ..) hIx.2.2 _ hit'
    have hv : vs[vs.length - 1 - i]? = some v := by simpa using hP
    have N₂ : News h₀ env.locals hh' ((I, it) :: Led c) := fun p hp => by
      rcases List.mem_cons.mp hp with rfl | hp
      · exact N₁ _ (List.mem_append_left _ hmemI)
      · exact N₁ _ (List.mem_append_right _ hp)
    have ownEq : ∀ p ∈ own, p = (I, it) ∨ p = (ax, lo) := fun p hp => by
      have h2' : hh'.get? p.1 = some p.2 := hget p hp
      rcases List.mem_cons.mp (hown p hp) with h1 | h1
      · left
        rw [h1, hit'] at h2'
        exact Prod.ext h1 (Option.some.inj h2').symm
      · right
        have h1' : p.1 = ax := List.mem_singleton.mp h1
        rw [h1', (N₁ _ (List.mem_append_right _ (hm c))).1] at h2'
        exact Prod.ext h1' (Option.some.inj h2').symm
    refine wpAny_mono (turn c i v m₁ hh' tk' it hin hv hInv (fun p hp' e => hofs p hp' (e ▸ .head _)) (kst_fr h1 h2 F₁) N₂) (fun f s₂ p => ?_) fun _ _ e => e
    have fin : TxEnd h₀ env.locals x Led ps stored m₀ (Inv (i + 1)) I it { s with heap := hh', toks := tk' } s₂ → LoopStepU h₀ env.locals [I] own (J (i + 1)) { s with heap := hh', toks := tk' } .next s₂ := by
      rintro ⟨c', h', tk, m', news', e, F', N', hI, hl', hn, hk', hr, hp'⟩
      refine ⟨rfl, h', tk, m', Led c', e, F', fun p hq => N' p ?_, fun p hq hb => hn p hq (List.mem_singleton.mp hb), c', rfl, hk', hr, hp'⟩
      rcases List.mem_append.mp hq with hq | hq
      · rcases ownEq p hq with rfl | rfl
        · exact hI
        · exact hl' _ (hm c')
      · exact hl' p hq
    cases f with
    | ret v => exact .ret p
    | brk => exact .brk p
    | next => exact .next (fin p)
    | cont => exact .cont (fin p)
  · rintro h' tk m' news' F' N' _ ⟨c, rfl, h1, h2, hInv⟩
    exact done c m' h' tk hInv (kst_frOut h1 h2 F') N'
end
end
section
local macro_rules | `(tactic| omega) => `(tactic| first | lia | omega (config := {}))
section
open PySem PySem.W PyProof.Rows PyProof.V PySem.Spec PySem.Calls
set_option Elab.async false
set_option maxRecDepth 100000
set_option maxHeartbeats 8000000
noncomputable def horner (p : Int) (ql : List Int) : Int := ql.foldl (fun acc q => acc * p + q) 0
theorem horner_snoc (p : Int) (ql : List Int) (q : Int) : horner p (ql ++ [q]) = horner p ql * p + q := by unfold horner; rw [List.foldl_append]; rfl
theorem horner_dR (p : Int) : ∀ (ql : List Int), ql.length ≤ 3 → dR p ql.reverse 0 ql.length = horner p ql
  | [], _ => rfl
  | [x], _ => by simp [dR, horner]
  | [x, y], _ => by simp [dR, horner]; rw [Int.mul_comm x p, Int.add_comm]
  | [x, y, z], _ => by
    simp [dR, horner]
    have e : p * (y + p * x) = (x * p + y) * p := by rw [Int.mul_comm p, Int.mul_comm p x, Int.add_comm y]
    omega
  | _ :: _ :: _ :: _ :: _, h => absurd h (by simp)
structure DSt where
  qs : List Value
  e : Nat
  r : Int
  tr : Tok
noncomputable abbrev dvLed (l : Addr) (rest : List (Addr × Obj)) (c : DSt) : List (Addr × Obj) := (l, listOf c.qs.toArray c.e) :: rest
noncomputable abbrev dvPs (c : DSt) : List (Str × Value) := [(Str.ofString "r", .int c.r c.tr)]
noncomputable abbrev dvStored : List Str := [Str.ofString "q_digit"]
noncomputable def DvInv (p a b : Int) (k i : Nat) (c : DSt) : Prop := ∃ ql, IntsAre c.qs ql ∧ ql.length = i ∧ (∀ x ∈ ql, 0 ≤ x ∧ x < p) ∧ Stp p b (a / p ^ (k - i)) (horner p ql) c.r
noncomputable abbrev DvPost (h₀ : Heap) (L : Addr) (l : Addr) (rest : List (Addr × Obj)) (m₀ : Str → Option Value) (p a b : Int) (k i : Nat) (I : Addr) (oI : Obj) (Q : Flow → Shared → Prop) (s₁ : Shared) (f : Flow) (s₂ : Shared) : Prop :=
  TxPost h₀ L (Str.ofString "a_digit") (dvLed l rest) dvPs dvStored m₀ (DvInv p a b k i) I oI Q s₁ f s₂
theorem DvInv.snoc {p a b q r' : Int} {k i : Nat} {qs : List Value} {e e' : Nat} {r : Int} {t : Tok} {tr tr' : Tok} (hp : 0 < p) (hi : i < k) (h : DvInv p a b k i ⟨qs, e, r, tr⟩) (hq : q = (r * p + a / p ^ (k - 1 - i) % p).fdiv b) (hr : r' = (r * p + a / p ^ (k - 1 - i) % p).fmod b) :
    DvInv p a b k (i + 1) ⟨qs ++ [.int q t], e', r', tr'⟩ := by
  obtain ⟨ql, h1, h2, h3, h4⟩ := h
  obtain ⟨g1, g2, g3⟩ := h4.go hp (dig_bnd p (a / p ^ (k - 1 - i)) hp)
  rw [show k - i = k - 1 - i + 1 by omega, ← dig_step p a (k - 1 - i) hp] at g1
  refine ⟨ql ++ [q], IntsAre.append h1 (.cons q t .nil), by simp [h2], ?_, ?_⟩
  · intro x hx
    rcases List.mem_append.mp hx with hx | hx
    · exact h3 x hx
    · rw [List.mem_singleton.mp hx, hq]
      exact ⟨g2, g3⟩
  · rw [horner_snoc, hq, hr, show k - (i + 1) = k - 1 - i by omega]
    exact g1
theorem dv_loop {prog : Program} {w : World} {A : Around} {E : Value → Shared → Prop} {s : Shared} {env : Env} {h₀ : Heap} {body : List Stmt} {Q : Flow → Shared → Prop} {m₀ : Str → Option Value} {l D I : Addr} {rest : List (Addr × Obj)} {t1 : Tok} {vs : List Value} {e nn : Nat} {p a b : Int} {k : Nat}
    (F : Fr h₀ env.locals s.heap m₀) (N : News h₀ env.locals s.heap ((I, revObj D ((vs.length : Int) - 1)) :: (l, listOf #[] e) :: rest)) (hh : A.handled = none) (hof : ∀ q ∈ (l, listOf #[] e) :: rest, q.1 ≠ I) (hm : (D, listOf vs.toArray nn) ∈ rest) (hi : IntsAre vs (digs p a k)) (hp : 0 < p) (hb : 0 < b) (hz : a / p ^ k = 0)
    (h1 : m₀ (Str.ofString "r") = some (.int 0 t1))
    (turn : ∀ (qs : List Value) (e : Nat) (r : Int) (tr : Tok) (i : Nat) (d : Int) (td : Tok) (u : Str → Option Value) (h : Heap) (tk : Nat) (oI : Obj), i < k → d = a / p ^ (k - 1 - i) % p → DvInv p a b k i ⟨qs, e, r, tr⟩ → 0 ≤ r → r < b → qs.length = i → 0 ≤ d ∧ d < p →
      @Ne Nat l I → (∀ p ∈ rest, p.1 ≠ I) →
      Fr h₀ env.locals h (fun y => if y = Str.ofString "a_digit" then some (.int d td) else if y = Str.ofString "r" then some (.int r tr) else if dvStored.contains y then u y else m₀ y) →
      News h₀ env.locals h ((I, oI) :: (l, listOf qs.toArray e) :: rest) →
      wpAny (model prog w) A (execs body env) (DvPost h₀ env.locals l rest m₀ p a b k (i + 1) I oI Q { s with heap := h, toks := tk }) E { s with heap := h, toks := tk })
    (done : ∀ (qs : List Value) (ql : List Int) (e : Nat) (r : Int) (tr : Tok) (ui : Str → Option Value) (u : Str → Option Value) (h : Heap) (tk : Nat), IntsAre qs ql → ql.length = k → (∀ x ∈ ql, 0 ≤ x ∧ x < p) → a.fdiv b = horner p ql → a.fmod b = r →
      Fr h₀ env.locals h (fun y => if y = Str.ofString "a_digit" then ui y else if y = Str.ofString "r" then some (.int r tr) else if dvStored.contains y then u y else m₀ y) →
      News h₀ env.locals h ((l, listOf qs.toArray e) :: rest) → Q .next { s with heap := h, toks := tk }) :
    wpAny (model prog w) A (pyIter (.ref I)) (fun it s₂ => LoopAtV prog w A h₀ env (Str.ofString "a_digit") body Q E it s₂) E s := by
  have hlen : vs.length = k := by rw [hi.length]; simp [digs]
  refine my_rev (dvLed l rest) dvPs dvStored (DvInv p a b k) ⟨[], e, 0, t1⟩ hh F N hof (fun _ => .tail _ hm) rfl rfl ?_ ⟨[], .nil, rfl, (fun x hx => nomatch hx), ?_⟩ ?_ ?_
  · intro p hp
    rcases List.mem_cons.mp hp with rfl | hp
    · exact h1
    cases hp
  · rw [Nat.sub_zero, hz]; exact Stp.start hb
  · rintro ⟨qs, e, r, tr⟩ i v u h tk oI hlt hv hInv hne F₁ N₁
    rw [hlen] at hlt hv
    obtain ⟨td, htd⟩ := hi.get (k - 1 - i) (a / p ^ (k - 1 - i) % p) (by unfold digs; rw [List.getElem?_map, List.getElem?_range (by omega)]; rfl)
    rw [htd] at hv
    cases hv
    have hI := hInv
    obtain ⟨ql, g1, g2, g3, g4⟩ := hI
    refine turn qs e r tr i _ td u h tk oI hlt rfl hInv g4.r0 g4.r1 (g1.length.trans g2) (dig_bnd p _ hp) (hne _ (.head _)) (fun p hp => hne p (.tail _ hp)) ?_ N₁
    simpa only [kstB] using F₁
  · rintro ⟨qs, e, r, tr⟩ u h tk ⟨ql, g1, g2, g3, g4⟩ F₁ N₁
    rw [hlen] at g2 g4
    rw [Nat.sub_self, Int.pow_zero, Int.ediv_one] at g4
    obtain ⟨z1, z2⟩ := g4.done
    refine done qs ql e r tr u u h tk g1 g2 g3 z1 z2 ?_ N₁
    simpa only [kstB] using F₁
theorem small_size {vs : List Value} (h : vs.length ≤ 1000) : vs.toArray.size ≤ PySem.sizeLine := by
  rw [List.size_toArray]
  exact Nat.le_trans h (by decide)
theorem dv_end {h₀ : Heap} {L : Addr} {m₀ : Str → Option Value} {p a b : Int} {k i : Nat} {I : Addr} {oI : Obj} {s₁ : Shared} {h' : Heap} {tk : Nat} {m' : Str → Option Value} {news' : List (Addr × Obj)} {l : Addr} {qs : List Value} {q : Int} {t : Tok} {e : Nat} {r : Int} {tr : Tok} {rest : List (Addr × Obj)}
    (F : Fr h₀ L h' m') (N : News h₀ L h' news') (hI : (I, oI) ∈ news') (h1 : (l, listOf (qs.toArray.push (.int q t)) e) ∈ news') (h2 : ∀ q ∈ rest, q ∈ news') (hl : l ≠ I) (hn : ∀ p ∈ rest, p.1 ≠ I)
    (hk : m' (Str.ofString "r") = some (.int r tr)) (hr : ∀ z, z ≠ Str.ofString "a_digit" → (∀ p ∈ dvPs ⟨qs ++ [.int q t], e, r, tr⟩, z ≠ p.1) → dvStored.contains z = false → m' z = m₀ z) (hp : DvInv p a b k i ⟨qs ++ [.int q t], e, r, tr⟩) :
    TxEnd h₀ L (Str.ofString "a_digit") (dvLed l rest) dvPs dvStored m₀ (DvInv p a b k i) I oI s₁ { s₁ with heap := h', toks := tk } :=
  TxEnd.mk' ⟨qs ++ [.int q t], e, r, tr⟩ F N hI (fun z hz => by
    rcases List.mem_cons.mp hz with rfl | hz
    · have : (qs ++ [Value.int q t]).toArray = qs.toArray.push (Value.int q t) := by simp
      dsimp only
      rw [this]
      exact h1
    · exact h2 z hz) (List.forall_mem_cons.mpr ⟨hl, hn⟩) (List.forall_mem_cons.mpr ⟨hk, fun _ h => nomatch h⟩) hr hp
theorem small_size2 {vs : List Value} (h : vs.length ≤ 1000) : vs.toArray.toList.length ≤ PySem.sizeLine := by
  rw [List.toList_toArray]
  exact Nat.le_trans h (by decide)
theorem pull1 {h₀ h : Heap} {L : Addr} {P : Prop} {l : Addr} {o : Obj} {r : List (Addr × Obj)} (_N : News h₀ L h ((l, o) :: r)) (f : ∀ l9 : Addr, l9 = l → P) : P := f l rfl
theorem News.rot53 {h₀ h : Heap} {L : Addr} {a b c d e : Addr × Obj} {l : List (Addr × Obj)} (N : News h₀ L h (a :: b :: c :: d :: e :: l)) : News h₀ L h (e :: a :: c :: d :: l) := News.sub N (fun q hq => by
  rcases List.mem_cons.mp hq with rfl | hq
  · exact .tail _ (.tail _ (.tail _ (.tail _ (.head _))))
  rcases List.mem_cons.mp hq with rfl | hq
  · exact .head _
  rcases List.mem_cons.mp hq with rfl | hq
  · exact .tail _ (.tail _ (.head _))
  rcases List.mem_cons.mp hq with rfl | hq
  · exact .tail _ (.tail _ (.tail _ (.head _)))
  exact .tail _ (.tail _ (.tail _ (.tail _ (.tail _ hq)))))
theorem News.dmpEnd {h₀ h : Heap} {L : Addr} {x c1 t53 a c2 t46 : Addr × Obj} {l : List (Addr × Obj)} (N : News h₀ L h (x :: c1 :: t53 :: a :: c2 :: t46 :: l)) : News h₀ L h (x :: c1 :: c2 :: t53 :: t46 :: l) := News.sub N (fun q hq => by
  rcases List.mem_cons.mp hq with rfl | hq
  · exact .head _
  rcases List.mem_cons.mp hq with rfl | hq
  · exact .tail _ (.head _)
  rcases List.mem_cons.mp hq with rfl | hq
  · exact .tail _ (.tail _ (.tail _ (.tail _ (.head _))))
  rcases List.mem_cons.mp hq with rfl | hq
  · exact .tail _ (.tail _ (.head _))
  exact .tail _ (.tail _ (.tail _ (.tail _ (.tail _ hq)))))
theorem code_ne {h₀ h : Heap} {L : Addr} {l : List (Addr × Obj)} (N : News h₀ L h l) {c P : Addr} {oc : Obj} {ps vs : Array Value} {q : Str} {t : Tok} (h1 : (c, oc) ∈ l) (h2 : (P, tabObj ps) ∈ l) (hd : oc.data = .fields vs) (hv : vs[1]? = some (.str q t))
    (hp : ps = #[] ∨ ∃ (x y : Int) (z : Value), ps = #[rawInt x, rawInt y, z]) : @Ne Nat c P := fun e => by
  have e1 := (N _ h1).1
  have e2 := (N _ h2).1
  dsimp only at e1 e2
  rw [show (c : Addr) = P from e, e2] at e1
  have e3 : tabObj ps = oc := Option.some.inj e1
  rw [← e3] at hd
  have e4 : ps = vs := Data.fields.inj hd
  rw [← e4] at hv
  rcases hp with rfl | ⟨x, y, z, rfl⟩
  · simp at hv
  · simp [rawInt] at hv
theorem Tab.shape {ln co : Nat} {q : Str} {ps : Array Value} {rest : List (Addr × Obj)} (h : Tab ln co q ps rest) : ps = #[] ∨ ∃ (x y : Int) (z : Value), ps = #[rawInt x, rawInt y, z] := by
  rcases h with h | ⟨c, o, vs, t, h1, _⟩
  · exact .inl h
  · exact .inr ⟨_, _, _, h1⟩
end
end
section
open PySem PySem.W PyProof.Rows
set_option Elab.async false
set_option maxRecDepth 100000
set_option maxHeartbeats 8000000
local macro_rules | `(tactic| k_mem) => `(tactic| ((repeat (first | with_reducible assumption | with_reducible refine List.mem_cons_of_mem _ ?_)); done))
local macro_rules | `(tactic| is_list) => `(tactic| exact News.isList (by k_asm) (by (repeat (first | assumption | with_reducible refine List.mem_cons_of_mem _ ?_)); done))
local macro_rules | `(tactic| k_all) => `(tactic| exact off1_ne (by assumption))
local macro_rules | `(tactic| k_all) => `(tactic| exact my_ne_up (by assumption) (by omega))
local macro_rules | `(tactic| walk_at "binaryOp LShift int int") => `(tactic| (k_here; refine mark_of ?_))
local macro_rules | `(tactic| walk_at "pyIter ref") => `(tactic| (k_here; refine mark_of ?_))
local macro_rules | `(tactic| walk_at "call builtin:list.reverse") => `(tactic| (k_here; refine mark_of ?_))
theorem dmp_core {w : World} {loose : List Str} {mean : ExcName → Option Value} {mg mb : Str → Option Value} (a b : Int) (p1 p2 : Array Value) (rest : List (Addr × Obj)) (t1 t2 : Tok) :
    ConX w loose mean mg mb 65 400 2500 (fun base news => CodeHd base 57 53 ∧ CodeHd base 50 46 ∧ news = (53, tabObj p1) :: (46, tabObj p2) :: rest ∧ LCg.Off1 53 rest ∧ LCg.Off1 46 rest ∧ Tab 71 4 QD p1 rest ∧ Tab 56 4 QI p2 rest ∧ DMP a b) [.int a t1, .int b t2] [] (fun news v news' => ∃ x o c1 k1 f1 u1 c2 k2 f2 u2, v = .ref x ∧ news' = (x, o) :: (c1, k1) :: (c2, k2) :: (53, tabObj #[rawInt (71 : Nat), rawInt (4 : Nat), .ref c1]) :: (46, tabObj #[rawInt (56 : Nat), rawInt (4 : Nat), .ref c2]) :: rest ∧ pairOf (a.fdiv b) (a.fmod b) o ∧ k1.data = .fields f1 ∧ f1[1]? = some (.str QD u1) ∧ k2.data = .fields f2 ∧ f2[1]? = some (.str QI u2) ∧ LCg.Off1 53 [(x, o), (c1, k1), (c2, k2)] ∧ LCg.Off1 46 [(x, o), (c1, k1), (c2, k2)] ∧ LCg.Off1 x rest) := by
  refine ConX.intro ?_
  k_fill
  intros
  rename_i hp hret
  (try dsimp only at hret)
  (try dsimp only at hp)
  obtain ⟨hC1, hC2, rfl, hO1, hO2, hT1, hT2, hI⟩ := hp
  have hI2 := hI.i2d
  refine wpAny_call ?_
  k_dflt cell_enter
  k_with_none
  w_strict (repeat' (first | (k_unfold; (try dsimp only)) | (with_reducible (k_here; (with_reducible show wpAny _ _ (call (Value.builtin _) [Value.ref _, _]) _ _ _); k_dflt (refine' append_K ?k1 ?k2 ?k3 ?_ ?z; (case k1 => k_asm); (case k2 => k_asm); (case k3 => k_upd); (case z => exact small_size (by omega)); k_whole); intro hqi Fqi Nqi; (try k_sweep))) | (with_reducible (k_here; (with_reducible show wpAny _ _ (call (Value.ref 37) [Value.int _ _, Value.int _ _, Value.int _ _]) _ _ _); k_dflt ( refine' (d21_c _ _ _ _ _ _ ).use ?k1 ?k2 ?k3 ?k4 ?k5 ?kK ?kp ?kd ?ku ?_; (case k1 => k_asm); (case k2 => k_asm); (case k3 => k_asm); (case k4 => k_asm); (case k5 => k_asm); (case kK => first | exact rfl | assumption); (case kp => assumption); (case kd => exact Nat.le_of_ble_eq_true rfl); (case ku => exact Nat.le_of_ble_eq_true rfl); intro x9qi o9qi h9qi tk9qi g9qi F9qi N9qi O9qi; (obtain ⟨q9qi, r9qi, e9qi⟩ := g9qi; subst e9qi; (try simp only [LCg.Off1] at O9qi)); (try dsimp only); (try k_fold)))) | (with_reducible (k_here; (with_reducible show wpAny _ _ (call (Value.ref 58) _) _ _ _); refine mark_of ?_)) | (with_reducible (k_here; (with_reducible show wpAny _ _ (call (Value.ref 51) _) _ _ _); refine mark_of ?_)) | (with_reducible (k_here; (with_reducible show wpAny _ _ (storeName _ _ _) _ _ _); k_dflt ((first | refine' stI ?F ?N ?_ ?a ?b | refine' stS ?F ?N ?_ ?a ?b | refine' stA ?F ?N ?_ ?a ?b); (case F => k_asm); (case N => k_asm); (case a => exact Eq.refl ScopeKind.function); (case b => exact Eq.refl (some NameKind.local)); k_whole; intro hqi tqi uqi Fqi Nqi; (try k_sweep)))) | (with_reducible (k_here; (with_reducible show wpAny _ _ (eval (Expr.Name _ _) _) _ _ _); k_dflt (refine' nameX_L ?F ?v ?_ ?a ?b ?d; (case F => k_asm); (case a => exact Eq.refl ScopeKind.function); (case b => exact Eq.refl (some NameKind.local)); (case d => exact Eq.refl false); (case v => exact Eq.refl (some _)); k_whole))) | (k_end; wrow_close) | walk1 | (dsimp only; walk1) | (leave1; walk_say "STEP leave1"; try dsimp only)))
  refine mark_in ?_
  k_dflt (refine' (i2d_core a (Builtin.Int.intBits b) p2 ((53, tabObj p1) :: rest) _ _).use (news := (46, tabObj p2) :: (53, tabObj p1) :: rest) ?k1 ?k2 ?k3 ?k4 ?k5 ?kK ?kp ?kd ?ku ?_)
  case k1 => k_asm
  case k2 => k_asm
  case k3 => k_asm
  case k4 => exact News.swap (by k_asm)
  case k5 => k_asm
  case kK => exact rfl
  case kp => exact ⟨by assumption, rfl, ⟨(by show @Ne Nat 53 46; decide), hO2⟩, Tab.cons hT2, hI2⟩
  case kd => exact Nat.le_of_ble_eq_true rfl
  case ku => exact Nat.le_of_ble_eq_true rfl
  intro v1 h1 tk1 nw1 g1 F1 N1
  obtain ⟨D, vs, e, c2, k2, f2, u2, y1, y2, hi, y4, y5, y6, y7, y8, y9⟩ := g1
  subst y1
  subst y2
  try dsimp only
  have hc53 : @Ne Nat c2 53 := code_ne N1 (.tail _ (.head _)) (.tail _ (.tail _ (.tail _ (.head _)))) y4 y5 hT1.shape
  have hk3 := hI.le3
  have hz : a / (2 ^ Builtin.Int.intBits b) ^ ndig a (Builtin.Int.intBits b) = 0 := by
    have h1 := hI2.lt
    rw [Int.toNat_natCast] at h1
    exact Int.ediv_eq_zero_of_lt hI.a0 h1
  rw [Int.toNat_natCast] at hi
  obtain ⟨k, hk⟩ : ∃ k, ndig a (Builtin.Int.intBits b) = k := ⟨_, rfl⟩
  rw [hk] at hi hk3 hz
  w_strict (repeat' (first | (k_unfold; (try dsimp only)) | (with_reducible (k_here; (with_reducible show wpAny _ _ (call (Value.builtin _) [Value.ref _, _]) _ _ _); k_dflt (refine' append_K ?k1 ?k2 ?k3 ?_ ?z; (case k1 => k_asm); (case k2 => k_asm); (case k3 => k_upd); (case z => exact small_size (by omega)); k_whole); intro hqi Fqi Nqi; (try k_sweep))) | (with_reducible (k_here; (with_reducible show wpAny _ _ (call (Value.ref 37) [Value.int _ _, Value.int _ _, Value.int _ _]) _ _ _); k_dflt ( refine' (d21_c _ _ _ _ _ _ ).use ?k1 ?k2 ?k3 ?k4 ?k5 ?kK ?kp ?kd ?ku ?_; (case k1 => k_asm); (case k2 => k_asm); (case k3 => k_asm); (case k4 => k_asm); (case k5 => k_asm); (case kK => first | exact rfl | assumption); (case kp => assumption); (case kd => exact Nat.le_of_ble_eq_true rfl); (case ku => exact Nat.le_of_ble_eq_true rfl); intro x9qi o9qi h9qi tk9qi g9qi F9qi N9qi O9qi; (obtain ⟨q9qi, r9qi, e9qi⟩ := g9qi; subst e9qi; (try simp only [LCg.Off1] at O9qi)); (try dsimp only); (try k_fold)))) | (with_reducible (k_here; (with_reducible show wpAny _ _ (call (Value.ref 58) _) _ _ _); refine mark_of ?_)) | (with_reducible (k_here; (with_reducible show wpAny _ _ (call (Value.ref 51) _) _ _ _); refine mark_of ?_)) | (with_reducible (k_here; (with_reducible show wpAny _ _ (storeName _ _ _) _ _ _); k_dflt ((first | refine' stI ?F ?N ?_ ?a ?b | refine' stS ?F ?N ?_ ?a ?b | refine' stA ?F ?N ?_ ?a ?b); (case F => k_asm); (case N => k_asm); (case a => exact Eq.refl ScopeKind.function); (case b => exact Eq.refl (some NameKind.local)); k_whole; intro hqi tqi uqi Fqi Nqi; (try k_sweep)))) | (with_reducible (k_here; (with_reducible show wpAny _ _ (eval (Expr.Name _ _) _) _ _ _); k_dflt (refine' nameX_L ?F ?v ?_ ?a ?b ?d; (case F => k_asm); (case a => exact Eq.refl ScopeKind.function); (case b => exact Eq.refl (some NameKind.local)); (case d => exact Eq.refl false); (case v => exact Eq.refl (some _)); k_whole))) | (k_end; wrow_close) | walk1 | (dsimp only; walk1) | (leave1; walk_say "STEP leave1"; try dsimp only)))
  refine mark_in ?_
  (with_reducible rename News _ _ _ _ => kN; with_reducible rename Fr _ _ _ _ => kF)
  k_dflt (refine' dv_loop (nn := e) kF kN rfl ?hof (.head _) hi (p2_pos _) hI.b0 hz rfl ?turn ?done)
  case hof => exact my_ne (by assumption)
  case turn =>
    clear kN kF
    intro qs e9 r tr i d td u h9 tk9 oI hik hd hInv hr0 hr1 hql hdb hlI hrI F9 N9
    w_strict (repeat' (first | (k_unfold; (try dsimp only)) | (with_reducible (k_here; (with_reducible show wpAny _ _ (call (Value.builtin _) [Value.ref _, _]) _ _ _); k_dflt (refine' append_K ?k1 ?k2 ?k3 ?_ ?z; (case k1 => k_asm); (case k2 => k_asm); (case k3 => k_upd); (case z => exact small_size (by omega)); k_whole); intro hqi Fqi Nqi; (try k_sweep))) | (with_reducible (k_here; (with_reducible show wpAny _ _ (call (Value.ref 37) [Value.int _ _, Value.int _ _, Value.int _ _]) _ _ _); k_dflt ( refine' (d21_c _ _ _ _ _ _ ).use ?k1 ?k2 ?k3 ?k4 ?k5 ?kK ?kp ?kd ?ku ?_; (case k1 => k_asm); (case k2 => k_asm); (case k3 => k_asm); (case k4 => k_asm); (case k5 => k_asm); (case kK => first | exact rfl | assumption); (case kp => assumption); (case kd => exact Nat.le_of_ble_eq_true rfl); (case ku => exact Nat.le_of_ble_eq_true rfl); intro x9qi o9qi h9qi tk9qi g9qi F9qi N9qi O9qi; (obtain ⟨q9qi, r9qi, e9qi⟩ := g9qi; subst e9qi; (try simp only [LCg.Off1] at O9qi)); (try dsimp only); (try k_fold)))) | (with_reducible (k_here; (with_reducible show wpAny _ _ (call (Value.ref 58) _) _ _ _); refine mark_of ?_)) | (with_reducible (k_here; (with_reducible show wpAny _ _ (call (Value.ref 51) _) _ _ _); refine mark_of ?_)) | (with_reducible (k_here; (with_reducible show wpAny _ _ (storeName _ _ _) _ _ _); k_dflt ((first | refine' stI ?F ?N ?_ ?a ?b | refine' stS ?F ?N ?_ ?a ?b | refine' stA ?F ?N ?_ ?a ?b); (case F => k_asm); (case N => k_asm); (case a => exact Eq.refl ScopeKind.function); (case b => exact Eq.refl (some NameKind.local)); k_whole; intro hqi tqi uqi Fqi Nqi; (try k_sweep)))) | (with_reducible (k_here; (with_reducible show wpAny _ _ (eval (Expr.Name _ _) _) _ _ _); k_dflt (refine' nameX_L ?F ?v ?_ ?a ?b ?d; (case F => k_asm); (case a => exact Eq.refl ScopeKind.function); (case b => exact Eq.refl (some NameKind.local)); (case d => exact Eq.refl false); (case v => exact Eq.refl (some _)); k_whole))) | (k_end; wrow_close) | walk1 | (dsimp only; walk1) | (leave1; walk_say "STEP leave1"; try dsimp only)))
    refine mark_in (bshl (p := 2 ^ Builtin.Int.intBits b) (by rw [Int.toNat_natCast]) (by omega) 4200 (Nat.le_trans (intBits_le_of_natAbs (by omega) (Nat.le_refl (Builtin.Int.intBits b))) hI.bb) (by have := hI.bb; omega) ?_)
    intro v hv
    have hD := hI.d21 hr0 hr1 hdb hv rfl
    try dsimp only
    w_strict (repeat' (first | (k_unfold; (try dsimp only)) | (with_reducible (k_here; (with_reducible show wpAny _ _ (call (Value.builtin _) [Value.ref _, _]) _ _ _); k_dflt (refine' append_K ?k1 ?k2 ?k3 ?_ ?z; (case k1 => k_asm); (case k2 => k_asm); (case k3 => k_upd); (case z => exact small_size (by omega)); k_whole); intro hqi Fqi Nqi; (try k_sweep))) | (with_reducible (k_here; (with_reducible show wpAny _ _ (call (Value.ref 37) [Value.int _ _, Value.int _ _, Value.int _ _]) _ _ _); k_dflt ( refine' (d21_c _ _ _ _ _ _ ).use ?k1 ?k2 ?k3 ?k4 ?k5 ?kK ?kp ?kd ?ku ?_; (case k1 => k_asm); (case k2 => k_asm); (case k3 => k_asm); (case k4 => k_asm); (case k5 => k_asm); (case kK => first | exact rfl | assumption); (case kp => assumption); (case kd => exact Nat.le_of_ble_eq_true rfl); (case ku => exact Nat.le_of_ble_eq_true rfl); intro x9qi o9qi h9qi tk9qi g9qi F9qi N9qi O9qi; (obtain ⟨q9qi, r9qi, e9qi⟩ := g9qi; subst e9qi; (try simp only [LCg.Off1] at O9qi)); (try dsimp only); (try k_fold)))) | (with_reducible (k_here; (with_reducible show wpAny _ _ (call (Value.ref 58) _) _ _ _); refine mark_of ?_)) | (with_reducible (k_here; (with_reducible show wpAny _ _ (call (Value.ref 51) _) _ _ _); refine mark_of ?_)) | (with_reducible (k_here; (with_reducible show wpAny _ _ (storeName _ _ _) _ _ _); k_dflt ((first | refine' stI ?F ?N ?_ ?a ?b | refine' stS ?F ?N ?_ ?a ?b | refine' stA ?F ?N ?_ ?a ?b); (case F => k_asm); (case N => k_asm); (case a => exact Eq.refl ScopeKind.function); (case b => exact Eq.refl (some NameKind.local)); k_whole; intro hqi tqi uqi Fqi Nqi; (try k_sweep)))) | (with_reducible (k_here; (with_reducible show wpAny _ _ (eval (Expr.Name _ _) _) _ _ _); k_dflt (refine' nameX_L ?F ?v ?_ ?a ?b ?d; (case F => k_asm); (case a => exact Eq.refl ScopeKind.function); (case b => exact Eq.refl (some NameKind.local)); (case d => exact Eq.refl false); (case v => exact Eq.refl (some _)); k_whole))) | (k_end; wrow_close) | walk1 | (dsimp only; walk1) | (leave1; walk_say "STEP leave1"; try dsimp only)))
    dsimp only [DvPost, TxPost]
    (with_reducible rename News _ _ _ _ => kN9)
    (with_reducible rename Fr _ _ _ _ => kF9)
    (with_unfolding_all refine dv_end (r := (v + d).fmod b) kF9 kN9 (.tail _ (.head _)) (.tail _ (.tail _ (.head _))) (fun q hq => .tail _ (.tail _ (.tail _ hq))) hlI hrI rfl ?mxR (hInv.snoc (p2_pos _) hik (by rw [hv, ← hd]) (by rw [hv, ← hd])))
    (case mxR => (intro z h1 h2 h3; (try simp only [List.forall_mem_cons, List.not_mem_nil, false_implies, implies_true, and_true, ne_eq] at h2); (repeat (first | with_reducible exact rfl | ((first | refine upI_ne ?hne ?_ | refine upS_ne ?hne ?_ | refine upA_ne ?hne ?_ | refine ite_ne ?hne ?_); (case hne => first | with_reducible exact h1 | with_reducible exact h2 | with_reducible exact h2.1 | with_reducible exact h2.2.1 | with_reducible exact h2.2.2.1 | with_reducible exact h2.2.2.2.1 | with_reducible exact h2.2.2.2.2.1 | with_reducible exact h2.2.2.2.2.2.1 | with_reducible exact h2.2.2.2.2.2.2.1 | with_reducible exact h2.2.2.2.2.2.2.2.1 | with_reducible exact h2.2 | with_reducible exact h2.2.2 | with_reducible exact h2.2.2.2 | with_reducible exact h2.2.2.2.2 | with_reducible exact h2.2.2.2.2.2 | with_reducible exact h2.2.2.2.2.2.2 | with_reducible exact h2.2.2.2.2.2.2.2 | with_reducible exact h2.2.2.2.2.2.2.2.2 | exact ctn_ne h3 (by decide +kernel))) | refine ite_ctn h3 ?_ | refine ite_ctn (ctn_sub h3 (by decide +kernel)) ?_)); done))
  case done =>
    clear kN kF
    intro qs ql e9 r tr ui u h9 tk9 hqs hlen hql hqq hrr F9 N9
    have hz9 := hqs.length
    have hh9 := horner_dR (2 ^ Builtin.Int.intBits b) ql (by omega)
    have hdok := hI.dok (ns := ql.reverse) (by rw [List.length_reverse]; omega) (fun x hx => hql x (List.mem_reverse.mp hx))
    w_strict (repeat' (first | (k_unfold; (try dsimp only)) | (with_reducible (k_here; (with_reducible show wpAny _ _ (call (Value.builtin _) [Value.ref _, _]) _ _ _); k_dflt (refine' append_K ?k1 ?k2 ?k3 ?_ ?z; (case k1 => k_asm); (case k2 => k_asm); (case k3 => k_upd); (case z => exact small_size (by omega)); k_whole); intro hqi Fqi Nqi; (try k_sweep))) | (with_reducible (k_here; (with_reducible show wpAny _ _ (call (Value.ref 37) [Value.int _ _, Value.int _ _, Value.int _ _]) _ _ _); k_dflt ( refine' (d21_c _ _ _ _ _ _ ).use ?k1 ?k2 ?k3 ?k4 ?k5 ?kK ?kp ?kd ?ku ?_; (case k1 => k_asm); (case k2 => k_asm); (case k3 => k_asm); (case k4 => k_asm); (case k5 => k_asm); (case kK => first | exact rfl | assumption); (case kp => assumption); (case kd => exact Nat.le_of_ble_eq_true rfl); (case ku => exact Nat.le_of_ble_eq_true rfl); intro x9qi o9qi h9qi tk9qi g9qi F9qi N9qi O9qi; (obtain ⟨q9qi, r9qi, e9qi⟩ := g9qi; subst e9qi; (try simp only [LCg.Off1] at O9qi)); (try dsimp only); (try k_fold)))) | (with_reducible (k_here; (with_reducible show wpAny _ _ (call (Value.ref 58) _) _ _ _); refine mark_of ?_)) | (with_reducible (k_here; (with_reducible show wpAny _ _ (call (Value.ref 51) _) _ _ _); refine mark_of ?_)) | (with_reducible (k_here; (with_reducible show wpAny _ _ (storeName _ _ _) _ _ _); k_dflt ((first | refine' stI ?F ?N ?_ ?a ?b | refine' stS ?F ?N ?_ ?a ?b | refine' stA ?F ?N ?_ ?a ?b); (case F => k_asm); (case N => k_asm); (case a => exact Eq.refl ScopeKind.function); (case b => exact Eq.refl (some NameKind.local)); k_whole; intro hqi tqi uqi Fqi Nqi; (try k_sweep)))) | (with_reducible (k_here; (with_reducible show wpAny _ _ (eval (Expr.Name _ _) _) _ _ _); k_dflt (refine' nameX_L ?F ?v ?_ ?a ?b ?d; (case F => k_asm); (case a => exact Eq.refl ScopeKind.function); (case b => exact Eq.refl (some NameKind.local)); (case d => exact Eq.refl false); (case v => exact Eq.refl (some _)); k_whole))) | (k_end; wrow_close) | walk1 | (dsimp only; walk1) | (leave1; walk_say "STEP leave1"; try dsimp only)))
    refine mark_in ?_
    k_dflt (refine' kl_reverse (l := qs.reverse) ?F ?N ?e ?U ?z ?_; (case F => k_asm); (case N => k_asm); (case U => k_upd); (case e => simp); (case z => exact small_size2 (by omega)))
    intro h10 F10 N10
    try dsimp only
    w_strict (repeat' (first | (k_unfold; (try dsimp only)) | (with_reducible (k_here; (with_reducible show wpAny _ _ (call (Value.builtin _) [Value.ref _, _]) _ _ _); k_dflt (refine' append_K ?k1 ?k2 ?k3 ?_ ?z; (case k1 => k_asm); (case k2 => k_asm); (case k3 => k_upd); (case z => exact small_size (by omega)); k_whole); intro hqi Fqi Nqi; (try k_sweep))) | (with_reducible (k_here; (with_reducible show wpAny _ _ (call (Value.ref 37) [Value.int _ _, Value.int _ _, Value.int _ _]) _ _ _); k_dflt ( refine' (d21_c _ _ _ _ _ _ ).use ?k1 ?k2 ?k3 ?k4 ?k5 ?kK ?kp ?kd ?ku ?_; (case k1 => k_asm); (case k2 => k_asm); (case k3 => k_asm); (case k4 => k_asm); (case k5 => k_asm); (case kK => first | exact rfl | assumption); (case kp => assumption); (case kd => exact Nat.le_of_ble_eq_true rfl); (case ku => exact Nat.le_of_ble_eq_true rfl); intro x9qi o9qi h9qi tk9qi g9qi F9qi N9qi O9qi; (obtain ⟨q9qi, r9qi, e9qi⟩ := g9qi; subst e9qi; (try simp only [LCg.Off1] at O9qi)); (try dsimp only); (try k_fold)))) | (with_reducible (k_here; (with_reducible show wpAny _ _ (call (Value.ref 58) _) _ _ _); refine mark_of ?_)) | (with_reducible (k_here; (with_reducible show wpAny _ _ (call (Value.ref 51) _) _ _ _); refine mark_of ?_)) | (with_reducible (k_here; (with_reducible show wpAny _ _ (storeName _ _ _) _ _ _); k_dflt ((first | refine' stI ?F ?N ?_ ?a ?b | refine' stS ?F ?N ?_ ?a ?b | refine' stA ?F ?N ?_ ?a ?b); (case F => k_asm); (case N => k_asm); (case a => exact Eq.refl ScopeKind.function); (case b => exact Eq.refl (some NameKind.local)); k_whole; intro hqi tqi uqi Fqi Nqi; (try k_sweep)))) | (with_reducible (k_here; (with_reducible show wpAny _ _ (eval (Expr.Name _ _) _) _ _ _); k_dflt (refine' nameX_L ?F ?v ?_ ?a ?b ?d; (case F => k_asm); (case a => exact Eq.refl ScopeKind.function); (case b => exact Eq.refl (some NameKind.local)); (case d => exact Eq.refl false); (case v => exact Eq.refl (some _)); k_whole))) | (k_end; wrow_close) | walk1 | (dsimp only; walk1) | (leave1; walk_say "STEP leave1"; try dsimp only)))
    refine pull1 N10 ?_
    intro l9 el9
    subst el9
    have hl53 : @LT.lt Nat _ 53 l9 := by omega
    refine mark_in ?_
    k_dflt (refine' (d2i_core l9 qs.reverse ql.reverse e9 (Builtin.Int.intBits b) p1 ((l9, listOf qs.reverse.toArray e9) :: (c2, k2) :: (46, tabObj #[rawInt (56 : Nat), rawInt (4 : Nat), .ref c2]) :: rest) _).use (news := (53, tabObj p1) :: (l9, listOf qs.reverse.toArray e9) :: (c2, k2) :: (46, tabObj #[rawInt (56 : Nat), rawInt (4 : Nat), .ref c2]) :: rest) ?k1 ?k2 ?k3 ?k4 ?k5 ?kK ?kp ?kd ?ku ?_)
    case k1 => k_asm
    case k2 => k_asm
    case k3 => k_asm
    case k4 => exact News.rot53 (by k_asm)
    case k5 => k_asm
    case kK => exact rfl
    case kp => exact ⟨hC1, rfl, ⟨Nat.ne_of_gt hl53, hc53, (by show @Ne Nat 46 53; decide), hO1⟩, Tab.cons (Tab.cons (Tab.cons hT1)), .head _, hqs.reverse, hdok⟩
    case kd => exact Nat.le_of_ble_eq_true rfl
    case ku => exact Nat.le_of_ble_eq_true rfl
    intro v1 h1 tk1 nw1 g1 F1 N1
    obtain ⟨u9, c1, k1, f1, u1, y10, y11, y12, y13, y14⟩ := g1
    subst y10
    subst y11
    try dsimp only
    w_strict (repeat' (first | (k_unfold; (try dsimp only)) | (with_reducible (k_here; (with_reducible show wpAny _ _ (call (Value.builtin _) [Value.ref _, _]) _ _ _); k_dflt (refine' append_K ?k1 ?k2 ?k3 ?_ ?z; (case k1 => k_asm); (case k2 => k_asm); (case k3 => k_upd); (case z => exact small_size (by omega)); k_whole); intro hqi Fqi Nqi; (try k_sweep))) | (with_reducible (k_here; (with_reducible show wpAny _ _ (call (Value.ref 37) [Value.int _ _, Value.int _ _, Value.int _ _]) _ _ _); k_dflt ( refine' (d21_c _ _ _ _ _ _ ).use ?k1 ?k2 ?k3 ?k4 ?k5 ?kK ?kp ?kd ?ku ?_; (case k1 => k_asm); (case k2 => k_asm); (case k3 => k_asm); (case k4 => k_asm); (case k5 => k_asm); (case kK => first | exact rfl | assumption); (case kp => assumption); (case kd => exact Nat.le_of_ble_eq_true rfl); (case ku => exact Nat.le_of_ble_eq_true rfl); intro x9qi o9qi h9qi tk9qi g9qi F9qi N9qi O9qi; (obtain ⟨q9qi, r9qi, e9qi⟩ := g9qi; subst e9qi; (try simp only [LCg.Off1] at O9qi)); (try dsimp only); (try k_fold)))) | (with_reducible (k_here; (with_reducible show wpAny _ _ (call (Value.ref 58) _) _ _ _); refine mark_of ?_)) | (with_reducible (k_here; (with_reducible show wpAny _ _ (call (Value.ref 51) _) _ _ _); refine mark_of ?_)) | (with_reducible (k_here; (with_reducible show wpAny _ _ (storeName _ _ _) _ _ _); k_dflt ((first | refine' stI ?F ?N ?_ ?a ?b | refine' stS ?F ?N ?_ ?a ?b | refine' stA ?F ?N ?_ ?a ?b); (case F => k_asm); (case N => k_asm); (case a => exact Eq.refl ScopeKind.function); (case b => exact Eq.refl (some NameKind.local)); k_whole; intro hqi tqi uqi Fqi Nqi; (try k_sweep)))) | (with_reducible (k_here; (with_reducible show wpAny _ _ (eval (Expr.Name _ _) _) _ _ _); k_dflt (refine' nameX_L ?F ?v ?_ ?a ?b ?d; (case F => k_asm); (case a => exact Eq.refl ScopeKind.function); (case b => exact Eq.refl (some NameKind.local)); (case d => exact Eq.refl false); (case v => exact Eq.refl (some _)); k_whole))) | (k_end; wrow_close) | walk1 | (dsimp only; walk1) | (leave1; walk_say "STEP leave1"; try dsimp only)))
    (with_reducible rename News _ _ _ _ => kN; with_reducible rename Fr _ _ _ _ => kF)
    have hc146 : @Ne Nat c1 46 := code_ne kN (.tail _ (.head _)) (.tail _ (.tail _ (.tail _ (.tail _ (.tail _ (.head _)))))) y12 y13 (.inr ⟨_, _, _, rfl⟩)
    have hpr := fun tq => pairOf.mk' (x := a.fdiv b) (y := a.fmod b) (t := tq)  (t' := tr) (x' := dR (2 ^ (Builtin.Int.intBits b : Int).toNat) ql.reverse 0 ql.reverse.length) (y' := r) (by rw [Int.toNat_natCast, List.length_reverse, hh9, hqq]) hrr.symm
    exact hret _ _ _ _ ⟨_, _, c1, k1, f1, u1, c2, k2, f2, u2, rfl, rfl, hpr _, y12, y13, y4, y5, ⟨by show @Ne Nat _ 53; omega, y14, hc53, trivial⟩, ⟨by show @Ne Nat _ 46; omega, hc146, y6, trivial⟩, off1_of_allLt (And.right (And.right (And.right (And.right (And.right (by assumption))))))⟩ kF (News.dmpEnd kN)
end
section
local macro_rules | `(tactic| omega) => `(tactic| first | lia | omega (config := {}))
section
open PySem PySem.W PyProof.Rows
set_option Elab.async false
set_option maxRecDepth 100000
/-- the tables and what they ask, at a call of int_divmod -/
noncomputable def DmPre (base : Heap) (news : List (Addr × Obj)) (p1 p2 : Array Value) (rest : List (Addr × Obj)) : Prop :=
  CodeHd base 57 53 ∧ CodeHd base 50 46 ∧ news = (53, tabObj p1) :: (46, tabObj p2) :: rest ∧ LCg.Off1 53 rest ∧ LCg.Off1 46 rest ∧ Tab 71 4 QD p1 rest ∧ Tab 56 4 QI p2 rest
noncomputable def DmPost (a b : Int) (rest : List (Addr × Obj)) (v : Value) (news' : List (Addr × Obj)) : Prop :=
  ∃ x o c1 k1 f1 u1 c2 k2 f2 u2, v = .ref x ∧ news' = (x, o) :: (c1, k1) :: (c2, k2) :: (53, tabObj #[rawInt (71 : Nat), rawInt (4 : Nat), .ref c1]) :: (46, tabObj #[rawInt (56 : Nat), rawInt (4 : Nat), .ref c2]) :: rest ∧ pairOf (a.fdiv b) (a.fmod b) o ∧ k1.data = .fields f1 ∧ f1[1]? = some (.str QD u1) ∧ k2.data = .fields f2 ∧ f2[1]? = some (.str QI u2) ∧ LCg.Off1 53 [(x, o), (c1, k1), (c2, k2)] ∧ LCg.Off1 46 [(x, o), (c1, k1), (c2, k2)] ∧ LCg.Off1 x rest
theorem dmp_con {w : World} {loose : List Str} {mean : ExcName → Option Value} {mg mb : Str → Option Value} (a b : Int) (p1 p2 : Array Value) (rest : List (Addr × Obj)) (t1 t2 : Tok) :
    ConX w loose mean mg mb 65 400 2500 (fun base news => DmPre base news p1 p2 rest ∧ DMP a b) [.int a t1, .int b t2] [] (fun _ v news' => DmPost a b rest v news') := by
  intro dp un gd cn cs aa ccd cl outer A₀ base h₀ L m s news Q E hd hu B F X N T hk hp ret
  obtain ⟨⟨h1, h2, h3, h4, h5, h6, h7⟩, h8⟩ := hp
  exact dmp_core a b p1 p2 rest t1 t2 dp un gd cn cs aa ccd cl outer A₀ base h₀ L m s news Q E hd hu B F X N T hk ⟨h1, h2, h3, h4, h5, h6, h7, h8⟩ ret
/-- what int_divmod is called with here -/
structure IDM (a b : Int) : Prop where
  b0 : b ≠ 0
  bb : Builtin.Int.intBits b ≤ 4200
  ba : Builtin.Int.intBits a ≤ 3 * Builtin.Int.intBits b
theorem IDM.pp {a b : Int} (h : IDM a b) (ha : 0 ≤ a) (hb : 0 < b) : DMP a b := ⟨ha, hb, h.bb, h.ba⟩
theorem IDM.inv {a b : Int} (h : IDM a b) (ha : a < 0) : IDM (Builtin.bitNot a) b :=
  ⟨h.b0, h.bb, intBits_le_of_natAbs (by unfold Builtin.bitNot; omega) h.ba⟩
theorem bits_neg_eq (b : Int) : Builtin.Int.intBits (-b) = Builtin.Int.intBits b :=
  Nat.le_antisymm (intBits_neg_le (Nat.le_refl _)) (by have := intBits_neg_le (x := -b) (Nat.le_refl _); rwa [Int.neg_neg] at this)
theorem IDM.neg {a b : Int} (h : IDM a b) : IDM (-a) (-b) :=
  ⟨by have := h.b0; omega, by rw [bits_neg_eq]; exact h.bb, by rw [bits_neg_eq, bits_neg_eq]; exact h.ba⟩
theorem inv_pair {a b : Int} (hb : 0 < b) : a.fdiv b = Builtin.bitNot ((Builtin.bitNot a).fdiv b) ∧ a.fmod b = b + Builtin.bitNot ((Builtin.bitNot a).fmod b) := by
  unfold Builtin.bitNot
  have k1 := Int.fmod_nonneg_of_pos (-a - 1) hb
  have k2 := Int.fmod_lt_of_pos (-a - 1) hb
  have k3 := Int.mul_fdiv_add_fmod (-a - 1) b
  refine div_unique hb ?_ (by omega) (by omega)
  have : (-((-a - 1).fdiv b) - 1) * b = -(b * (-a - 1).fdiv b) - b := by rw [Int.sub_mul, Int.neg_mul, Int.mul_comm, Int.one_mul]
  omega
theorem neg_pair {a b : Int} (hb : b < 0) : a.fdiv b = (-a).fdiv (-b) ∧ a.fmod b = -((-a).fmod (-b)) := by
  have e : a.fdiv b = (-a).fdiv (-b) := (Int.neg_fdiv_neg a b).symm
  have k1 := Int.mul_fdiv_add_fmod a b
  have k2 := Int.mul_fdiv_add_fmod (-a) (-b)
  rw [← e] at k2
  refine ⟨e, ?_⟩
  rw [Int.neg_mul] at k2
  omega
theorem Tab.of1 {ln co : Nat} {q : Str} {c : Addr} {k : Obj} {f : Array Value} {u : Tok} {rest : List (Addr × Obj)} (h1 : (c, k) ∈ rest) (h2 : k.data = .fields f) (h3 : f[1]? = some (.str q u)) : Tab ln co q #[rawInt ln, rawInt co, .ref c] rest := .inr ⟨c, k, f, u, rfl, h1, h2, h3⟩
end
end
section
open PySem PySem.W PyProof.Rows
set_option Elab.async false
set_option maxRecDepth 100000
set_option maxHeartbeats 8000000
local macro_rules | `(tactic| k_mem) => `(tactic| ((repeat (first | with_reducible assumption | with_reducible refine List.mem_cons_of_mem _ ?_)); done))
local macro_rules | `(tactic| is_list) => `(tactic| exact News.isList (by k_asm) (by (repeat (first | assumption | with_reducible refine List.mem_cons_of_mem _ ?_)); done))
local macro_rules | `(tactic| k_all) => `(tactic| exact off1_ne (by assumption))
local macro_rules | `(tactic| k_all) => `(tactic| exact my_ne_up (by assumption) (by omega))
theorem id_a {w : World} {loose : List Str} {mean : ExcName → Option Value} {mg mb : Str → Option Value} (a b : Int) (p1 p2 : Array Value) (rest : List (Addr × Obj)) (t1 t2 : Tok) :
    ConX w loose mean mg mb 72 360 2000 (fun base news => DmPre base news p1 p2 rest ∧ DMP a b) [.int a t1, .int b t2] [] (fun _ v news' => DmPost a b rest v news') := by
  refine ConX.intro ?_
  k_fill
  intros
  rename_i hp hret
  (try dsimp only at hret)
  obtain ⟨hP, hI⟩ := hp
  have hP' := hP
  obtain ⟨hC1, hC2, hnw, hO1, hO2, hT1, hT2⟩ := hP'
  subst hnw
  have h0 := hI.a0
  have h1 := hI.b0
  refine wpAny_call ?_
  k_dflt cell_enter
  k_with_none
  w_strict (repeat' (first | (k_unfold; (try dsimp only)) | (with_reducible (k_here; (with_reducible show wpAny _ _ (call (Value.ref 72) _) _ _ _); refine mark_of ?_)) | (with_reducible (k_here; (with_reducible show wpAny _ _ (call (Value.ref 65) _) _ _ _); refine mark_of ?_)) | (with_reducible (k_here; (with_reducible show wpAny _ _ (storeName _ _ _) _ _ _); k_dflt ((first | refine' stI ?F ?N ?_ ?a ?b | refine' stS ?F ?N ?_ ?a ?b | refine' stA ?F ?N ?_ ?a ?b); (case F => k_asm); (case N => k_asm); (case a => exact Eq.refl ScopeKind.function); (case b => exact Eq.refl (some NameKind.local)); k_whole; intro hqi tqi uqi Fqi Nqi; (try k_sweep)))) | (with_reducible (k_here; (with_reducible show wpAny _ _ (eval (Expr.Name _ _) _) _ _ _); k_dflt (refine' nameX_L ?F ?v ?_ ?a ?b ?d; (case F => k_asm); (case a => exact Eq.refl ScopeKind.function); (case b => exact Eq.refl (some NameKind.local)); (case d => exact Eq.refl false); (case v => exact Eq.refl (some _)); k_whole))) | (k_end; wrow_close) | walk1 | (dsimp only; walk1) | (leave1; walk_say "STEP leave1"; try dsimp only)))
  · exfalso; omega
  refine mark_in ?_
  k_dflt (refine' (dmp_con a b p1 p2 rest _ _).use (news := (53, tabObj p1) :: (46, tabObj p2) :: rest) ?k1 ?k2 ?k3 ?k4 ?k5 ?kK ?kp ?kd ?ku ?_)
  case k1 => k_asm
  case k2 => k_asm
  case k3 => k_asm
  case k4 => exact by k_asm
  case k5 => k_asm
  case kK => exact rfl
  case kp => exact ⟨hP, hI⟩
  case kd => exact Nat.le_of_ble_eq_true rfl
  case ku => exact Nat.le_of_ble_eq_true rfl
  intro v1 g1 tk1 nw1 hp1 F1 N1
  try dsimp only
  w_strict (repeat' (first | (k_unfold; (try dsimp only)) | (with_reducible (k_here; (with_reducible show wpAny _ _ (call (Value.ref 72) _) _ _ _); refine mark_of ?_)) | (with_reducible (k_here; (with_reducible show wpAny _ _ (call (Value.ref 65) _) _ _ _); refine mark_of ?_)) | (with_reducible (k_here; (with_reducible show wpAny _ _ (storeName _ _ _) _ _ _); k_dflt ((first | refine' stI ?F ?N ?_ ?a ?b | refine' stS ?F ?N ?_ ?a ?b | refine' stA ?F ?N ?_ ?a ?b); (case F => k_asm); (case N => k_asm); (case a => exact Eq.refl ScopeKind.function); (case b => exact Eq.refl (some NameKind.local)); k_whole; intro hqi tqi uqi Fqi Nqi; (try k_sweep)))) | (with_reducible (k_here; (with_reducible show wpAny _ _ (eval (Expr.Name _ _) _) _ _ _); k_dflt (refine' nameX_L ?F ?v ?_ ?a ?b ?d; (case F => k_asm); (case a => exact Eq.refl ScopeKind.function); (case b => exact Eq.refl (some NameKind.local)); (case d => exact Eq.refl false); (case v => exact Eq.refl (some _)); k_whole))) | (k_end; wrow_close) | walk1 | (dsimp only; walk1) | (leave1; walk_say "STEP leave1"; try dsimp only)))
  exact hret _ _ _ _ hp1 (by k_asm) (by k_asm)
theorem id_b {w : World} {loose : List Str} {mean : ExcName → Option Value} {mg mb : Str → Option Value} (a b : Int) (p1 p2 : Array Value) (rest : List (Addr × Obj)) (t1 t2 : Tok) :
    ConX w loose mean mg mb 72 345 1500 (fun base news => DmPre base news p1 p2 rest ∧ IDM a b ∧ 0 < b) [.int a t1, .int b t2] [] (fun _ v news' => DmPost a b rest v news') := by
  refine ConX.intro ?_
  k_fill
  intros
  rename_i hp hret
  (try dsimp only at hret)
  obtain ⟨hP, hI⟩ := hp
  have hP' := hP
  obtain ⟨hC1, hC2, hnw, hO1, hO2, hT1, hT2⟩ := hP'
  subst hnw
  obtain ⟨hI, h1⟩ := hI
  refine wpAny_call ?_
  k_dflt cell_enter
  k_with_none
  w_strict (repeat' (first | (k_unfold; (try dsimp only)) | (with_reducible (k_here; (with_reducible show wpAny _ _ (call (Value.ref 72) _) _ _ _); refine mark_of ?_)) | (with_reducible (k_here; (with_reducible show wpAny _ _ (call (Value.ref 65) _) _ _ _); refine mark_of ?_)) | (with_reducible (k_here; (with_reducible show wpAny _ _ (storeName _ _ _) _ _ _); k_dflt ((first | refine' stI ?F ?N ?_ ?a ?b | refine' stS ?F ?N ?_ ?a ?b | refine' stA ?F ?N ?_ ?a ?b); (case F => k_asm); (case N => k_asm); (case a => exact Eq.refl ScopeKind.function); (case b => exact Eq.refl (some NameKind.local)); k_whole; intro hqi tqi uqi Fqi Nqi; (try k_sweep)))) | (with_reducible (k_here; (with_reducible show wpAny _ _ (eval (Expr.Name _ _) _) _ _ _); k_dflt (refine' nameX_L ?F ?v ?_ ?a ?b ?d; (case F => k_asm); (case a => exact Eq.refl ScopeKind.function); (case b => exact Eq.refl (some NameKind.local)); (case d => exact Eq.refl false); (case v => exact Eq.refl (some _)); k_whole))) | (k_end; wrow_close) | walk1 | (dsimp only; walk1) | (leave1; walk_say "STEP leave1"; try dsimp only)))
  · exfalso; omega
  refine mark_in ?_
  k_dflt (refine' (id_a (Builtin.bitNot a) b p1 p2 rest _ _).use (news := (53, tabObj p1) :: (46, tabObj p2) :: rest) ?k1 ?k2 ?k3 ?k4 ?k5 ?kK ?kp ?kd ?ku ?_)
  case k1 => k_asm
  case k2 => k_asm
  case k3 => k_asm
  case k4 => exact by k_asm
  case k5 => k_asm
  case kK => exact rfl
  case kp => exact ⟨hP, (hI.inv (by assumption)).pp (by unfold Builtin.bitNot; omega) h1⟩
  case kd => exact Nat.le_of_ble_eq_true rfl
  case ku => exact Nat.le_of_ble_eq_true rfl
  intro v1 g1 tk1 nw1 hp1 F1 N1
  try dsimp only
  obtain ⟨x, o, c1, k1, f1, u1, c2, k2, f2, u2, y1, y2, ⟨z1, z2, y3⟩, y4, y5, y6, y7, y8, y9, y10⟩ := hp1
  subst y1
  subst y2
  subst y3
  w_strict (repeat' (first | (k_unfold; (try dsimp only)) | (with_reducible (k_here; (with_reducible show wpAny _ _ (call (Value.ref 72) _) _ _ _); refine mark_of ?_)) | (with_reducible (k_here; (with_reducible show wpAny _ _ (call (Value.ref 65) _) _ _ _); refine mark_of ?_)) | (with_reducible (k_here; (with_reducible show wpAny _ _ (storeName _ _ _) _ _ _); k_dflt ((first | refine' stI ?F ?N ?_ ?a ?b | refine' stS ?F ?N ?_ ?a ?b | refine' stA ?F ?N ?_ ?a ?b); (case F => k_asm); (case N => k_asm); (case a => exact Eq.refl ScopeKind.function); (case b => exact Eq.refl (some NameKind.local)); k_whole; intro hqi tqi uqi Fqi Nqi; (try k_sweep)))) | (with_reducible (k_here; (with_reducible show wpAny _ _ (eval (Expr.Name _ _) _) _ _ _); k_dflt (refine' nameX_L ?F ?v ?_ ?a ?b ?d; (case F => k_asm); (case a => exact Eq.refl ScopeKind.function); (case b => exact Eq.refl (some NameKind.local)); (case d => exact Eq.refl false); (case v => exact Eq.refl (some _)); k_whole))) | (k_end; wrow_close) | walk1 | (dsimp only; walk1) | (leave1; walk_say "STEP leave1"; try dsimp only)))
  · (with_reducible rename News _ _ _ _ => kN; with_reducible rename Fr _ _ _ _ => kF)
    have hpr := inv_pair (a := a) h1
    refine hret _ _ _ _ ⟨_, _, c1, k1, f1, u1, c2, k2, f2, u2, rfl, rfl, pairOf.mk' ?e1 ?e2, y4, y5, y6, y7, ⟨by show @Ne Nat _ 53; omega, y8.2⟩, ⟨by show @Ne Nat _ 46; omega, y9.2⟩, off1_of_allLt ?e3⟩ kF (News.drop2 kN)
    case e1 => first | exact hpr.1.symm | exact (by rw [hpr.1])
    case e2 => first | exact hpr.2.symm | exact (by rw [hpr.2])
    case e3 => exact (And.right (And.right (And.right (And.right (And.right (by assumption))))))
  · skip
    refine mark_in ?_
    k_dflt (refine' (dmp_con a b p1 p2 rest _ _).use (news := (53, tabObj p1) :: (46, tabObj p2) :: rest) ?k1 ?k2 ?k3 ?k4 ?k5 ?kK ?kp ?kd ?ku ?_)
    case k1 => k_asm
    case k2 => k_asm
    case k3 => k_asm
    case k4 => exact by k_asm
    case k5 => k_asm
    case kK => exact rfl
    case kp => exact ⟨hP, hI.pp (by omega) h1⟩
    case kd => exact Nat.le_of_ble_eq_true rfl
    case ku => exact Nat.le_of_ble_eq_true rfl
    intro v1 g1 tk1 nw1 hp1 F1 N1
    try dsimp only
    w_strict (repeat' (first | (k_unfold; (try dsimp only)) | (with_reducible (k_here; (with_reducible show wpAny _ _ (call (Value.ref 72) _) _ _ _); refine mark_of ?_)) | (with_reducible (k_here; (with_reducible show wpAny _ _ (call (Value.ref 65) _) _ _ _); refine mark_of ?_)) | (with_reducible (k_here; (with_reducible show wpAny _ _ (storeName _ _ _) _ _ _); k_dflt ((first | refine' stI ?F ?N ?_ ?a ?b | refine' stS ?F ?N ?_ ?a ?b | refine' stA ?F ?N ?_ ?a ?b); (case F => k_asm); (case N => k_asm); (case a => exact Eq.refl ScopeKind.function); (case b => exact Eq.refl (some NameKind.local)); k_whole; intro hqi tqi uqi Fqi Nqi; (try k_sweep)))) | (with_reducible (k_here; (with_reducible show wpAny _ _ (eval (Expr.Name _ _) _) _ _ _); k_dflt (refine' nameX_L ?F ?v ?_ ?a ?b ?d; (case F => k_asm); (case a => exact Eq.refl ScopeKind.function); (case b => exact Eq.refl (some NameKind.local)); (case d => exact Eq.refl false); (case v => exact Eq.refl (some _)); k_whole))) | (k_end; wrow_close) | walk1 | (dsimp only; walk1) | (leave1; walk_say "STEP leave1"; try dsimp only)))
    exact hret _ _ _ _ hp1 (by k_asm) (by k_asm)
theorem id_n {w : World} {loose : List Str} {mean : ExcName → Option Value} {mg mb : Str → Option Value} (a b : Int) (p1 p2 : Array Value) (rest : List (Addr × Obj)) (t1 t2 : Tok) :
    ConX w loose mean mg mb 72 330 1200 (fun base news => DmPre base news p1 p2 rest ∧ IDM a b ∧ b < 0) [.int a t1, .int b t2] [] (fun _ v news' => DmPost a b rest v news') := by
  refine ConX.intro ?_
  k_fill
  intros
  rename_i hp hret
  (try dsimp only at hret)
  obtain ⟨hP, hI⟩ := hp
  have hP' := hP
  obtain ⟨hC1, hC2, hnw, hO1, hO2, hT1, hT2⟩ := hP'
  subst hnw
  obtain ⟨hI, h1⟩ := hI
  refine wpAny_call ?_
  k_dflt cell_enter
  k_with_none
  w_strict (repeat' (first | (k_unfold; (try dsimp only)) | (with_reducible (k_here; (with_reducible show wpAny _ _ (call (Value.ref 72) _) _ _ _); refine mark_of ?_)) | (with_reducible (k_here; (with_reducible show wpAny _ _ (call (Value.ref 65) _) _ _ _); refine mark_of ?_)) | (with_reducible (k_here; (with_reducible show wpAny _ _ (storeName _ _ _) _ _ _); k_dflt ((first | refine' stI ?F ?N ?_ ?a ?b | refine' stS ?F ?N ?_ ?a ?b | refine' stA ?F ?N ?_ ?a ?b); (case F => k_asm); (case N => k_asm); (case a => exact Eq.refl ScopeKind.function); (case b => exact Eq.refl (some NameKind.local)); k_whole; intro hqi tqi uqi Fqi Nqi; (try k_sweep)))) | (with_reducible (k_here; (with_reducible show wpAny _ _ (eval (Expr.Name _ _) _) _ _ _); k_dflt (refine' nameX_L ?F ?v ?_ ?a ?b ?d; (case F => k_asm); (case a => exact Eq.refl ScopeKind.function); (case b => exact Eq.refl (some NameKind.local)); (case d => exact Eq.refl false); (case v => exact Eq.refl (some _)); k_whole))) | (k_end; wrow_close) | walk1 | (dsimp only; walk1) | (leave1; walk_say "STEP leave1"; try dsimp only)))
  · exfalso; omega
  refine mark_in ?_
  k_dflt (refine' (id_b (-a) (-b) p1 p2 rest _ _).use (news := (53, tabObj p1) :: (46, tabObj p2) :: rest) ?k1 ?k2 ?k3 ?k4 ?k5 ?kK ?kp ?kd ?ku ?_)
  case k1 => k_asm
  case k2 => k_asm
  case k3 => k_asm
  case k4 => exact by k_asm
  case k5 => k_asm
  case kK => exact rfl
  case kp => exact ⟨hP, ⟨hI.neg, by omega⟩⟩
  case kd => exact Nat.le_of_ble_eq_true rfl
  case ku => exact Nat.le_of_ble_eq_true rfl
  intro v1 g1 tk1 nw1 hp1 F1 N1
  try dsimp only
  obtain ⟨x, o, c1, k1, f1, u1, c2, k2, f2, u2, y1, y2, ⟨z1, z2, y3⟩, y4, y5, y6, y7, y8, y9, y10⟩ := hp1
  subst y1
  subst y2
  subst y3
  w_strict (repeat' (first | (k_unfold; (try dsimp only)) | (with_reducible (k_here; (with_reducible show wpAny _ _ (call (Value.ref 72) _) _ _ _); refine mark_of ?_)) | (with_reducible (k_here; (with_reducible show wpAny _ _ (call (Value.ref 65) _) _ _ _); refine mark_of ?_)) | (with_reducible (k_here; (with_reducible show wpAny _ _ (storeName _ _ _) _ _ _); k_dflt ((first | refine' stI ?F ?N ?_ ?a ?b | refine' stS ?F ?N ?_ ?a ?b | refine' stA ?F ?N ?_ ?a ?b); (case F => k_asm); (case N => k_asm); (case a => exact Eq.refl ScopeKind.function); (case b => exact Eq.refl (some NameKind.local)); k_whole; intro hqi tqi uqi Fqi Nqi; (try k_sweep)))) | (with_reducible (k_here; (with_reducible show wpAny _ _ (eval (Expr.Name _ _) _) _ _ _); k_dflt (refine' nameX_L ?F ?v ?_ ?a ?b ?d; (case F => k_asm); (case a => exact Eq.refl ScopeKind.function); (case b => exact Eq.refl (some NameKind.local)); (case d => exact Eq.refl false); (case v => exact Eq.refl (some _)); k_whole))) | (k_end; wrow_close) | walk1 | (dsimp only; walk1) | (leave1; walk_say "STEP leave1"; try dsimp only)))
  · (with_reducible rename News _ _ _ _ => kN; with_reducible rename Fr _ _ _ _ => kF)
    have hpr := neg_pair (a := a) h1
    refine hret _ _ _ _ ⟨_, _, c1, k1, f1, u1, c2, k2, f2, u2, rfl, rfl, pairOf.mk' ?e1 ?e2, y4, y5, y6, y7, ⟨by show @Ne Nat _ 53; omega, y8.2⟩, ⟨by show @Ne Nat _ 46; omega, y9.2⟩, off1_of_allLt ?e3⟩ kF (News.drop2 kN)
    case e1 => first | exact hpr.1.symm | exact (by rw [hpr.1])
    case e2 => first | exact hpr.2.symm | exact (by rw [hpr.2])
    case e3 => exact (And.right (And.right (And.right (And.right (And.right (by assumption))))))
theorem id_con {w : World} {loose : List Str} {mean : ExcName → Option Value} {mg mb : Str → Option Value} (a b : Int) (p1 p2 : Array Value) (rest : List (Addr × Obj)) (t1 t2 : Tok) :
    ConX w loose mean mg mb 72 330 1200 (fun base news => DmPre base news p1 p2 rest ∧ IDM a b) [.int a t1, .int b t2] [] (fun _ v news' => DmPost a b rest v news') := by
  intro dp un gd cn cs aa ccd cl outer A₀ base h₀ L m s news Q E hd hu B F X N T hk hp ret
  obtain ⟨h8, h9⟩ := hp
  rcases Int.lt_or_gt_of_ne h9.b0 with hb | hb
  · exact id_n a b p1 p2 rest t1 t2 dp un gd cn cs aa ccd cl outer A₀ base h₀ L m s news Q E hd hu B F X N T hk ⟨h8, h9, hb⟩ ret
  · exact id_b a b p1 p2 rest t1 t2 dp un gd cn cs aa ccd cl outer A₀ base h₀ L m s news Q E (Nat.le_trans hd (by decide)) (Nat.le_trans hu (by decide)) B F X N T hk ⟨h8, h9, hb⟩ ret
end
section
local macro_rules | `(tactic| omega) => `(tactic| first | lia | omega (config := {}))
section
open PySem PySem.W PyProof.Rows
set_option Elab.async false
set_option maxRecDepth 100000
section
variable {prog : Program} {w : World} {A : Around} {E : Value → Shared → Prop} {s : Shared} {env : Env} {h₀ : Heap} {L : Addr} {Q : Flow → Shared → Prop} {news : List (Addr × Obj)}
noncomputable def Cut2 (h₀ : Heap) (L : Addr) (m₀ : Str → Option Value) (news : List (Addr × Obj)) (y z : Str) (P : Int → Int → Prop) (s : Shared) (f : Flow) (s₂ : Shared) : Prop :=
  f = .next ∧ ∃ (a b : Int) (t u : Tok) (h : Heap) (tk : Nat) (m : Str → Option Value), s₂ = { s with heap := h, toks := tk } ∧ Fr h₀ L h m ∧ News h₀ L h news ∧ m y = some (.int a t) ∧ m z = some (.int b u) ∧ (∀ x, x ≠ y → x ≠ z → m x = m₀ x) ∧ P a b
theorem Cut2.mk' {y z : Str} {P : Int → Int → Prop} {m₀ : Str → Option Value} {a b : Int} {t u : Tok} {h : Heap} {tk : Nat} {m : Str → Option Value} (F : Fr h₀ L h m) (N : News h₀ L h news) (hy : m y = some (.int a t)) (hz : m z = some (.int b u)) (hr : ∀ x, x ≠ y → x ≠ z → m x = m₀ x) (hp : P a b) :
    Cut2 h₀ L m₀ news y z P s .next { s with heap := h, toks := tk } := ⟨rfl, a, b, t, u, h, tk, m, rfl, F, N, hy, hz, hr, hp⟩
/-- a statement that may store two ints: its ways merged -/
theorem cut_two {st : Stmt} {m₀ : Str → Option Value} (y z : Str) (P : Int → Int → Prop) (_F : Fr h₀ L s.heap m₀) (_N : News h₀ L s.heap news)
    (h1 : wpAny (model prog w) A (exec st env) (Cut2 h₀ L m₀ news y z P s) E s)
    (h2 : ∀ (a b : Int) (t u : Tok) (h : Heap) (tk : Nat), P a b → Fr h₀ L h (fun x => if x = y then some (.int a t) else if x = z then some (.int b u) else m₀ x) → News h₀ L h news → Q .next { s with heap := h, toks := tk }) :
    wpAny (model prog w) A (exec st env) Q E s := by
  refine wpAny_mono h1 (fun f s₂ q => ?_) fun _ _ x => x
  obtain ⟨rfl, a, b, t, u, h, tk, m, rfl, F', N', hy, hz, hr, hp⟩ := q
  have e : m = fun x => if x = y then some (.int a t) else if x = z then some (.int b u) else m₀ x := by
    funext x
    by_cases h1 : x = y
    · rw [if_pos h1, h1, hy]
    · rw [if_neg h1]
      by_cases h2 : x = z
      · rw [if_pos h2, h2, hz]
      · rw [if_neg h2, hr x h1 h2]
  rw [e] at F'
  exact h2 a b t u h tk hp F' N'
end
/-- the hour and the size behind the law's first if -/
noncomputable def HourOk (ev : Int) (size hour : Int) : Prop := 20 ≤ size ∧ size ≤ 4159 ∧ ∀ i : Int, 0 ≤ i → i ≤ 3 → Builtin.Int.intBits (hour + i) ≤ size.toNat
theorem bits_small {x : Int} (h0 : -1048576 < x) (h1 : x < 1048576) : Builtin.Int.intBits x ≤ 20 := by
  refine intBits_le_iff.mpr ?_
  have e : (2 : Nat) ^ 20 = 1048576 := by decide
  rw [e]; omega
theorem HourOk.small {ev size hour : Int} (h0 : 20 ≤ size) (h1 : size ≤ 4159) (h2 : -1000000 ≤ hour) (h3 : hour ≤ 1000000) : HourOk ev size hour :=
  ⟨h0, h1, fun i i0 i3 => Nat.le_trans (bits_small (by omega) (by omega)) (by omega)⟩
theorem HourOk.big {ev size hour p : Int} (hp : p = 2 ^ Int.toNat 4060) (h0 : 20 ≤ size) (h1 : size ≤ 59) (h2 : -1000000 ≤ hour) (h3 : hour ≤ 1000000) (e0 : 1 ≤ ev) (e1 : ev ≤ 20) : HourOk ev (size + 4100) (hour + ev * p) := by
  refine ⟨by omega, by omega, fun i i0 i3 => ?_⟩
  have b1 : Builtin.Int.intBits ev ≤ 5 := intBits_le_iff.mpr (by have e : (2 : Nat) ^ 5 = 32 := by decide
                                                                 rw [e]; omega)
  have b2 : Builtin.Int.intBits p ≤ 4061 := bits_of_lt (by rw [hp]; exact Int.le_of_lt (p2_pos _)) (by
    rw [hp, show (4061 : Nat) = Int.toNat 4060 + 1 from rfl, Int.pow_succ]
    have := p2_pos (Int.toNat 4060)
    omega)
  have b3 := bits_mul b1 b2
  have b4 : Builtin.Int.intBits (hour + i) ≤ 20 := bits_small (by omega) (by omega)
  have b5 := bits_add b4 b3
  have e : hour + ev * p + i = (hour + i) + ev * p := by omega
  rw [e]
  exact Nat.le_trans b5 (by omega)
theorem fmod_rng (x : Int) {c : Int} (hc : 0 < c) : 0 ≤ x.fmod c ∧ x.fmod c < c := ⟨Int.fmod_nonneg_of_pos x hc, Int.fmod_lt_of_pos x hc⟩
noncomputable def Sd (sd tot : Int) : Prop := sd = 1 - 2 * tot.fmod 2
theorem Sd.two {sd tot : Int} (h : Sd sd tot) : sd = 1 ∨ sd = -1 := by
  have := fmod_rng tot (c := 2) (by decide)
  unfold Sd at h
  omega
end
section
open PySem PySem.W PyProof.Rows
set_option Elab.async false
set_option maxRecDepth 100000
theorem fm_scale {h d u : Int} (hd : 0 < d) (hu : 0 < u) : (h * u).fdiv (d * u) = h.fdiv d ∧ (h * u).fmod (d * u) = h.fmod d * u := by
  have k1 := Int.fmod_nonneg_of_pos h hd
  have k2 := Int.fmod_lt_of_pos h hd
  have k3 := Int.mul_fdiv_add_fmod h d
  refine div_unique (Int.mul_pos hd hu) ?_ (Int.mul_nonneg k1 (Int.le_of_lt hu)) (Int.mul_lt_mul_of_pos_right k2 hu)
  have : h.fdiv d * (d * u) = d * h.fdiv d * u := by rw [← Int.mul_assoc, Int.mul_comm (h.fdiv d) d]
  rw [this, ← Int.add_mul, k3]
/-- the place that is asked -/
noncomputable def plc (sd ev h : Int) : Int := sd * h.fmod (sd * ev)
structure Unit1 (sd ev u : Int) : Prop where
  two : sd = 1 ∨ sd = -1
  e0 : 1 ≤ ev
  e1 : ev ≤ 20
  u0 : 0 < u
namespace Unit1
variable {sd ev u h : Int} (H : Unit1 sd ev u)
include H
theorem vals : (h * u).fdiv (sd * ev * u) = h.fdiv (sd * ev) ∧ (h * u).fmod (sd * ev * u) = h.fmod (sd * ev) * u := by
  have hu := H.u0
  have he := H.e0
  rcases H.two with e | e
  · rw [e, Int.one_mul]; exact fm_scale (by omega) hu
  · rw [e]
    have e1 : (-1 : Int) * ev = -ev := by omega
    have e2 : -ev * u = -(ev * u) := Int.neg_mul _ _
    rw [e1, e2]
    have hp : 0 < ev * u := Int.mul_pos (by omega) hu
    obtain ⟨a1, a2⟩ := neg_pair (a := h * u) (b := -(ev * u)) (by omega)
    obtain ⟨c1, c2⟩ := neg_pair (a := h) (b := -ev) (by omega)
    rw [a1, a2, c1, c2, Int.neg_neg, Int.neg_neg, ← Int.neg_mul]
    obtain ⟨b1, b2⟩ := fm_scale (h := -h) (d := ev) (u := u) (by omega) hu
    rw [b1, b2, Int.neg_mul]
    exact ⟨rfl, rfl⟩
theorem place : (h.fmod (sd * ev) * u).fdiv (sd * u) = plc sd ev h := by
  have hu := H.u0
  unfold plc
  rcases H.two with e | e
  · rw [e, Int.one_mul, Int.one_mul, Int.one_mul]
    exact Int.mul_fdiv_cancel _ (by omega)
  · rw [e]
    have e1 : (-1 : Int) * ev = -ev := by omega
    have e2 : (-1 : Int) * u = -u := by omega
    rw [e1, e2]
    generalize h.fmod (-ev) = r
    have : r * u = (-1 * r) * (-u) := by rw [Int.mul_neg, Int.neg_mul, Int.neg_mul, Int.one_mul, Int.neg_neg]
    rw [this]
    exact Int.mul_fdiv_cancel _ (by omega)
theorem bnd : 0 ≤ plc sd ev h ∧ plc sd ev h < ev := by
  have he := H.e0
  unfold plc
  rcases H.two with e | e
  · rw [e, Int.one_mul, Int.one_mul]; exact fmod_rng h (by omega)
  · rw [e]
    have e1 : (-1 : Int) * ev = -ev := by omega
    rw [e1]
    obtain ⟨c1, c2⟩ := neg_pair (a := h) (b := -ev) (by omega)
    rw [c2, Int.neg_neg]
    obtain ⟨d1, d2⟩ := fmod_rng (-h) (c := ev) (by omega)
    omega
end Unit1
theorem unit_bits {sz u : Int} (h0 : 20 ≤ sz) (hu : u = 2 ^ sz.toNat - 1) : 0 < u ∧ Builtin.Int.intBits u ≤ sz.toNat ∧ ∀ b : Int, u ≤ b → sz.toNat ≤ Builtin.Int.intBits b := by
  have e : (2 : Int) ^ sz.toNat = 2 ^ (sz.toNat - 1) * 2 := by
    rw [← Int.pow_succ]; congr 1; omega
  have e2 := p2_pos (sz.toNat - 1)
  refine ⟨by omega, bits_of_lt (by omega) (by omega), fun b hb => ?_⟩
  have : ¬ Builtin.Int.intBits b ≤ sz.toNat - 1 := fun h => by
    have := lt_of_bits h
    have e3 : (2 : Int) ≤ 2 ^ (sz.toNat - 1) := by
      have : sz.toNat - 1 = (sz.toNat - 2) + 1 := by omega
      rw [this, Int.pow_succ]
      have := p2_pos (sz.toNat - 2)
      omega
    omega
  omega
theorem idm_law {sd ev u sz h : Int} (H : Unit1 sd ev u) (h0 : 20 ≤ sz) (h1 : sz ≤ 4159) (hu : u = 2 ^ sz.toNat - 1) (hb : Builtin.Int.intBits h ≤ sz.toNat) : IDM (h * u) (sd * ev * u) := by
  obtain ⟨u0, u1, u2⟩ := unit_bits h0 hu
  have he := H.e0
  have he1 := H.e1
  have hp : 0 < ev * u := Int.mul_pos (by omega) u0
  have hge : u ≤ ev * u := by
    have := Int.mul_le_mul_of_nonneg_right he (Int.le_of_lt u0)
    omega
  have b1 : Builtin.Int.intBits ev ≤ 5 := intBits_le_iff.mpr (by have e : (2 : Nat) ^ 5 = 32 := by decide
                                                                 rw [e]; omega)
  have b2 := bits_mul b1 u1
  have b3 := u2 _ hge
  have e : Builtin.Int.intBits (sd * ev * u) = Builtin.Int.intBits (ev * u) := by
    rcases H.two with e | e
    · rw [e, Int.one_mul]
    · rw [e]
      have : (-1 : Int) * ev * u = -(ev * u) := by rw [Int.neg_mul, Int.neg_mul, Int.one_mul]
      rw [this, bits_neg_eq]
  refine ⟨?_, by rw [e]; omega, ?_⟩
  · rcases H.two with e | e
    · rw [e, Int.one_mul]; omega
    · rw [e]
      have : (-1 : Int) * ev * u = -(ev * u) := by rw [Int.neg_mul, Int.neg_mul, Int.one_mul]
      omega
  · rw [e]
    have := bits_mul hb u1
    omega
/-- two objects of other kinds lie apart -/
theorem ne_data {h₀ h : Heap} {L : Addr} {l : List (Addr × Obj)} (N : News h₀ L h l) {x y : Addr} {o o' : Obj} (h1 : (x, o) ∈ l) (h2 : (y, o') ∈ l) (hd : o.data ≠ o'.data) : @Ne Nat x y := fun e => by
  have e1 := (N _ h1).1
  have e2 := (N _ h2).1
  dsimp only at e1 e2
  rw [show (x : Addr) = y from e, e2] at e1
  exact hd (congrArg Obj.data (Option.some.inj e1)).symm
end
end
section
open PySem PySem.W PyProof.Rows PyProof.V PySem.Spec PySem.Calls
set_option Elab.async false
set_option maxRecDepth 100000
set_option maxHeartbeats 8000000
theorem iter_ne {h₀ h : Heap} {L : Addr} {l : List (Addr × Obj)} (N : News h₀ L h l) {c I : Addr} {oc oI : Obj} {vs : Array Value} {q : Str} {t : Tok} (h1 : (c, oc) ∈ l) (h2 : (I, oI) ∈ l) (hd : oc.data = .fields vs) (hv : vs[1]? = some (.str q t)) (hI : IterObj oI) : @Ne Nat c I := fun e => by
  have e1 := (N _ h1).1
  have e2 := (N _ h2).1
  dsimp only at e1 e2
  rw [show (c : Addr) = I from e, e2] at e1
  have e3 : oI = oc := Option.some.inj e1
  obtain ⟨x, y, z, hx⟩ := hI
  rw [e3, hd] at hx
  rw [Data.fields.inj hx] at hv
  simp [rawInt] at hv
end
section
local macro_rules | `(tactic| omega) => `(tactic| first | lia | omega (config := {}))
section
open PySem PySem.W PyProof.Rows PyProof.V PySem.Spec PySem.Calls
set_option Elab.async false
set_option maxRecDepth 100000
set_option maxHeartbeats 8000000
structure S1 where
  p1 : Array Value
  p2 : Array Value
  vs : List Value
  e : Nat
  R : List (Addr × Obj)
noncomputable abbrev l1Led (ld b1 b2 b3 : Addr) (w1 w2 w3 : Obj) (c : S1) : List (Addr × Obj) := (ld, listOf c.vs.toArray c.e) :: (53, tabObj c.p1) :: (46, tabObj c.p2) :: (b3, w3) :: (b2, w2) :: (b1, w1) :: c.R
structure LOff (ld b1 b2 b3 : Addr) (R : List (Addr × Obj)) : Prop where
  a : LCg.Off1 53 R
  b : LCg.Off1 46 R
  l : LCg.Off1 ld R
  x : LCg.Off1 b1 R
  y : LCg.Off1 b2 R
  z : LCg.Off1 b3 R
structure L1Inv (f : Nat → Str) (ld b1 b2 b3 : Addr) (i : Nat) (c : S1) : Prop where
  off : LOff ld b1 b2 b3 c.R
  t1 : Tab 71 4 QD c.p1 c.R
  t2 : Tab 56 4 QI c.p2 c.R
  vs : StrsAre c.vs ((List.range i).map f)
  ne : 0 < i → c.p1 ≠ #[] ∧ c.p2 ≠ #[]
noncomputable abbrev l1Stored : List Str := [Str.ofString "lap", Str.ofString "rest"]
noncomputable abbrev l1Ps (_ : S1) : List (Str × Value) := []
noncomputable abbrev L1Post (h₀ : Heap) (L : Addr) (ld b1 b2 b3 : Addr) (w1 w2 w3 : Obj) (m₀ : Str → Option Value) (f : Nat → Str) (i : Nat) (I : Addr) (oI : Obj) (Q : Flow → Shared → Prop) (s₁ : Shared) (g : Flow) (s₂ : Shared) : Prop :=
  TxPost h₀ L (Str.ofString "i") (l1Led ld b1 b2 b3 w1 w2 w3) l1Ps l1Stored m₀ (L1Inv f ld b1 b2 b3 i) I oI Q s₁ g s₂
theorem l1_loop {prog : Program} {w : World} {A : Around} {E : Value → Shared → Prop} {s : Shared} {env : Env} {h₀ : Heap} {body : List Stmt} {Q : Flow → Shared → Prop} {m₀ : Str → Option Value} {ld b1 b2 b3 rg : Addr} {w1 w2 w3 : Obj} {t₀ u₀ v₀ : Tok} {p1 p2 : Array Value} {e : Nat} {R : List (Addr × Obj)} {n : Nat} (f : Nat → Str)
    (F : Fr h₀ env.locals s.heap m₀) (N : News h₀ env.locals s.heap ((ld, listOf #[] e) :: (53, tabObj p1) :: (46, tabObj p2) :: (b3, w3) :: (b2, w2) :: (b1, w1) :: R)) (hh : A.handled = none) (hr : IsRange s.heap rg 0 (n : Int) 1 t₀ u₀ v₀) (hn : n ≤ 8)
    (off : LOff ld b1 b2 b3 R) (T1 : Tab 71 4 QD p1 R) (T2 : Tab 56 4 QI p2 R)
    (turn : ∀ (p1 p2 : Array Value) (vs : List Value) (e : Nat) (R : List (Addr × Obj)) (i : Nat) (t : Tok) (u : Str → Option Value) (h : Heap) (tk : Nat) (I : Addr) (oI : Obj), i < n → IterObj oI → LOff ld b1 b2 b3 R → Tab 71 4 QD p1 R → Tab 56 4 QI p2 R → StrsAre vs ((List.range i).map f) →
      @Ne Nat ld I → @Ne Nat 53 I → @Ne Nat 46 I → @Ne Nat b3 I → @Ne Nat b2 I → @Ne Nat b1 I → (∀ p ∈ R, p.1 ≠ I) →
      Fr h₀ env.locals h (fun y => if y = Str.ofString "i" then some (.int (i : Int) t) else if l1Stored.contains y then u y else m₀ y) →
      News h₀ env.locals h ((I, oI) :: (ld, listOf vs.toArray e) :: (53, tabObj p1) :: (46, tabObj p2) :: (b3, w3) :: (b2, w2) :: (b1, w1) :: R) →
      wpAny (model prog w) A (execs body env) (L1Post h₀ env.locals ld b1 b2 b3 w1 w2 w3 m₀ f (i + 1) I oI Q { s with heap := h, toks := tk }) E { s with heap := h, toks := tk })
    (done : ∀ (p1 p2 : Array Value) (vs : List Value) (e : Nat) (R : List (Addr × Obj)) (ui u : Str → Option Value) (h : Heap) (tk : Nat), LOff ld b1 b2 b3 R → Tab 71 4 QD p1 R → Tab 56 4 QI p2 R → StrsAre vs ((List.range n).map f) → (0 < n → p1 ≠ #[] ∧ p2 ≠ #[]) →
      Fr h₀ env.locals h (fun y => if y = Str.ofString "i" then ui y else if l1Stored.contains y then u y else m₀ y) →
      News h₀ env.locals h ((ld, listOf vs.toArray e) :: (53, tabObj p1) :: (46, tabObj p2) :: (b3, w3) :: (b2, w2) :: (b1, w1) :: R) → Q .next { s with heap := h, toks := tk }) :
    wpAny (model prog w) A (pyIter (.ref rg)) (fun it s₂ => LoopAtV prog w A h₀ env (Str.ofString "i") body Q E it s₂) E s := by
  refine my_range2 (n := n) (l1Led ld b1 b2 b3 w1 w2 w3) l1Ps l1Stored (L1Inv f ld b1 b2 b3) ⟨p1, p2, [], e, R⟩ hh hr (small_one (by omega) (by omega) (by omega) (by omega)) (by rw [rangeSize_nat]; simp) F N (fun p hp => nomatch hp) ⟨off, T1, T2, .nil, fun h => absurd h (Nat.lt_irrefl 0)⟩ ?_ ?_
  · rintro ⟨p1, p2, vs, e, R⟩ i t u h tk I oI hlt hPI ⟨off, T1, T2, hvs, _⟩ hne F₁ N₁
    refine turn p1 p2 vs e R i t u h tk I oI hlt hPI off T1 T2 hvs (hne _ (.head _)) (hne _ (.tail _ (.head _))) (hne _ (.tail _ (.tail _ (.head _)))) (hne _ (.tail _ (.tail _ (.tail _ (.head _))))) (hne _ (.tail _ (.tail _ (.tail _ (.tail _ (.head _)))))) (hne _ (.tail _ (.tail _ (.tail _ (.tail _ (.tail _ (.head _))))))) (fun p hp => hne p (.tail _ (.tail _ (.tail _ (.tail _ (.tail _ (.tail _ hp))))))) ?_ N₁
    simpa only [kstB] using F₁
  · rintro ⟨p1, p2, vs, e, R⟩ u h tk ⟨off, T1, T2, hvs, hne⟩ F₁ N₁
    refine done p1 p2 vs e R u u h tk off T1 T2 hvs hne ?_ N₁
    simpa only [kstB] using F₁
theorem l1_end {h₀ : Heap} {L : Addr} {m₀ : Str → Option Value} {f : Nat → Str} {i : Nat} {I : Addr} {oI : Obj} {s₁ : Shared} {h' : Heap} {tk : Nat} {m' : Str → Option Value} {news' : List (Addr × Obj)} {ld b1 b2 b3 : Addr} {w1 w2 w3 : Obj} {p1 p2 : Array Value} {vs : List Value} {x : Str} {t : Tok} {e : Nat} {R : List (Addr × Obj)}
    (F : Fr h₀ L h' m') (N : News h₀ L h' news') (hI : (I, oI) ∈ news') (h1 : (ld, listOf (vs.toArray.push (.str x t)) e) ∈ news') (h53 : (53, tabObj p1) ∈ news') (h46 : (46, tabObj p2) ∈ news') (h2 : ∀ q ∈ (b3, w3) :: (b2, w2) :: (b1, w1) :: R, q ∈ news')
    (hn : ∀ p ∈ l1Led ld b1 b2 b3 w1 w2 w3 ⟨p1, p2, vs ++ [.str x t], e, R⟩, p.1 ≠ I) (hr : ∀ z, z ≠ Str.ofString "i" → l1Stored.contains z = false → m' z = m₀ z)
    (off : LOff ld b1 b2 b3 R) (T1 : Tab 71 4 QD p1 R) (T2 : Tab 56 4 QI p2 R) (hvs : StrsAre vs ((List.range i).map f)) (hx : x = f i) (hne : p1 ≠ #[] ∧ p2 ≠ #[]) :
    TxEnd h₀ L (Str.ofString "i") (l1Led ld b1 b2 b3 w1 w2 w3) l1Ps l1Stored m₀ (L1Inv f ld b1 b2 b3 (i + 1)) I oI s₁ { s₁ with heap := h', toks := tk } :=
  TxEnd.mk' ⟨p1, p2, vs ++ [.str x t], e, R⟩ F N hI (fun z hz => by
    rcases List.mem_cons.mp hz with rfl | hz
    · have : (vs ++ [Value.str x t]).toArray = vs.toArray.push (Value.str x t) := by simp
      dsimp only
      rw [this]
      exact h1
    rcases List.mem_cons.mp hz with rfl | hz
    · exact h53
    rcases List.mem_cons.mp hz with rfl | hz
    · exact h46
    exact h2 z hz) hn (fun p hp => nomatch hp) (fun z h1 _ h3 => hr z h1 h3) ⟨off, T1, T2, by
      rw [List.range_succ, List.map_append]
      exact StrsAre.append' hvs (hx ▸ .cons x t .nil), fun _ => hne⟩
theorem News.l1perm {h₀ h : Heap} {L : Addr} {a d b3 b2 b1 x y : Addr × Obj} (N : News h₀ L h [a, d, b3, b2, b1, x, y]) : News h₀ L h [a, x, y, b3, b2, b1] := News.sub N (fun q hq => by
  simp only [List.mem_cons, List.not_mem_nil, or_false] at hq ⊢
  rcases hq with h | h | h | h | h | h <;> simp [h])
theorem News.l1call {h₀ h : Heap} {L : Addr} {a b x y : Addr × Obj} {l : List (Addr × Obj)} (N : News h₀ L h (a :: b :: x :: y :: l)) : News h₀ L h (x :: y :: a :: b :: l) := News.sub N (fun q hq => by
  rcases List.mem_cons.mp hq with rfl | hq
  · exact .tail _ (.tail _ (.head _))
  rcases List.mem_cons.mp hq with rfl | hq
  · exact .tail _ (.tail _ (.tail _ (.head _)))
  rcases List.mem_cons.mp hq with rfl | hq
  · exact .head _
  rcases List.mem_cons.mp hq with rfl | hq
  · exact .tail _ (.head _)
  exact .tail _ (.tail _ (.tail _ (.tail _ hq))))
theorem LOff.nil {ld b1 b2 b3 : Addr} : LOff ld b1 b2 b3 [] := ⟨trivial, trivial, trivial, trivial, trivial, trivial⟩
/-- the bounds that a turn of the first loop wants -/
structure Bits1 (sd ev un h : Int) : Prop where
  h1 : Builtin.Int.intBits h ≤ 4159
  h2 : Builtin.Int.intBits un ≤ 4159
  h3 : Builtin.Int.intBits sd ≤ 5
  h4 : Builtin.Int.intBits ev ≤ 5
  h5 : Builtin.Int.intBits (sd * ev) ≤ 10
  h6 : Builtin.Int.intBits (h.fmod (sd * ev)) ≤ 10
  n1 : sd * ev ≠ 0
  n2 : sd * un ≠ 0
  l1 : (sd * ev).natAbs.log2 < 9000
  l2 : (sd * un).natAbs.log2 < 9000
theorem Bits1.of {sd ev un sz h : Int} (H : Unit1 sd ev un) (h0 : 20 ≤ sz) (h1 : sz ≤ 4159) (hu : un = 2 ^ sz.toNat - 1) (hb : Builtin.Int.intBits h ≤ sz.toNat) : Bits1 sd ev un h := by
  obtain ⟨u0, u1, u2⟩ := unit_bits h0 hu
  have he := H.e0
  have he1 := H.e1
  have b1 : Builtin.Int.intBits ev ≤ 5 := intBits_le_iff.mpr (by have e : (2 : Nat) ^ 5 = 32 := by decide
                                                                 rw [e]; omega)
  have b0 : Builtin.Int.intBits sd ≤ 5 := intBits_le_iff.mpr (by have e : (2 : Nat) ^ 5 = 32 := by decide
                                                                 have := H.two
                                                                 rw [e]; omega)
  have b3 := bits_mul b0 b1
  have b4 := bits_mul b0 u1
  have n1 : sd * ev ≠ 0 := by
    rcases H.two with e | e <;> rw [e] <;> omega
  have n2 : sd * un ≠ 0 := by
    rcases H.two with e | e <;> rw [e] <;> omega
  exact ⟨by omega, by omega, b0, b1, b3, bits_fmod_by n1 b3, n1, n2, Nat.lt_of_lt_of_le (log2_of_bits b3 n1) (by decide), Nat.lt_of_lt_of_le (log2_of_bits b4 n2) (by omega)⟩
theorem Tab.cons5 {ln co : Nat} {q : Str} {ps : Array Value} {a b c d e : Addr × Obj} {rest : List (Addr × Obj)} (h : Tab ln co q ps rest) : Tab ln co q ps (a :: b :: c :: d :: e :: rest) := h.cons.cons.cons.cons.cons
theorem ne_cell {h₀ h : Heap} {L : Addr} {l : List (Addr × Obj)} (N : News h₀ L h l) {x y : Addr} {o o' : Obj} (h1 : (x, o) ∈ l) (h2 : (y, o') ∈ l) {f : Array Value} {v : Option Value} (d1 : o.data = .fields f) (d2 : o'.data = .cell v) : @Ne Nat x y :=
  ne_data N h1 h2 (by rw [d1, d2]; intro h; cases h)
theorem ne_list {h₀ h : Heap} {L : Addr} {l : List (Addr × Obj)} (N : News h₀ L h l) {x y : Addr} {o : Obj} {vs : Array Value} {e : Nat} (h1 : (x, o) ∈ l) (h2 : (y, listOf vs e) ∈ l) {f : Array Value} (d1 : o.data = .fields f) : @Ne Nat x y :=
  ne_data N h1 h2 (by rw [d1]; intro h; cases h)
theorem LOff.two {ld b1 b2 b3 c1 c2 : Addr} {k1 k2 : Obj} {R : List (Addr × Obj)} (h : LOff ld b1 b2 b3 R) (a1 : @Ne Nat c1 53) (a2 : @Ne Nat c2 53) (b1' : @Ne Nat c1 46) (b2' : @Ne Nat c2 46) (l1 : @Ne Nat c1 ld) (l2 : @Ne Nat c2 ld) (x1 : @Ne Nat c1 b1) (x2 : @Ne Nat c2 b1) (y1 : @Ne Nat c1 b2) (y2 : @Ne Nat c2 b2) (z1 : @Ne Nat c1 b3) (z2 : @Ne Nat c2 b3) :
    LOff ld b1 b2 b3 ((c1, k1) :: (c2, k2) :: R) := ⟨⟨a1, a2, h.a⟩, ⟨b1', b2', h.b⟩, ⟨l1, l2, h.l⟩, ⟨x1, x2, h.x⟩, ⟨y1, y2, h.y⟩, ⟨z1, z2, h.z⟩⟩
theorem small_size3 {vs : List Value} {xs : List Str} (h : StrsAre vs xs) (hl : xs.length ≤ 1000) : vs.toArray.size ≤ PySem.sizeLine := by
  rw [List.size_toArray, h.length]
  exact Nat.le_trans hl (by decide)
end
section
open PySem PySem.W PyProof.Rows PyProof.V PySem.Spec PySem.Calls
set_option Elab.async false
set_option maxRecDepth 100000
set_option maxHeartbeats 8000000
section
variable {prog : Program} {w : World} {A : Around} {E : Value → Shared → Prop} {s : Shared} {h₀ : Heap} {L : Addr} {m : Str → Option Value} {env : Env}
/-- a comprehension's turns, over any source; each item's value told by its place -/
theorem kcs_any {elt : Expr} {x : Str} {scope : Scope} {cl : List (Str × Addr)} {Fin : List Value → List (Addr × Obj) → Prop} {news : List (Addr × Obj)} {S : List (Addr × Obj) → Prop} {P : Nat → Value → Prop} {n : Nat} (V : Nat → Value → Prop)
    (turn : ∀ i v I oI C oC D m₂ ys h tk (E' : Value → Shared → Prop), i < n → P i v → LCg.NsObj oC m₂ → m₂ x = some v → Fr h₀ L h m → News h₀ L h ((I, oI) :: (C, oC) :: (D, LCg.lst ys) :: news) → LCg.Off3 I C D news → ((@Ne Nat I C) ∧ (@Ne Nat I D) ∧ (@Ne Nat C D)) →
      wpAny (model prog w) A (eval elt (compEnvC scope cl C env)) (LCg.CompEnd h₀ L m { s with heap := h, toks := tk } I oI C oC D (LCg.lst ys) S (fun y news' => news' = news ∧ V i y)) E' { s with heap := h, toks := tk })
    (fin : ∀ ys, Each V (List.range n) ys → Fin ys news) : LCg.CompRest prog w A h₀ L m env elt x scope cl s S P Fin n 0 [] news := by
  have key : ∀ (j i : Nat) (ys : List Value), i + j = n → Each V (List.range i) ys → LCg.CompRest prog w A h₀ L m env elt x scope cl s S P Fin j i ys news := by
    intro j
    induction j with
    | zero =>
      intro i ys hi hy
      rw [show i = n by omega] at hy
      exact LCg.CompRest.zero (fin ys hy)
    | succ j ih =>
      intro i ys hi hy
      refine LCg.CompRest.succ ?_
      intro v I oI C oC D m₂ h tk E' hv hC hx F N off ne
      refine wpAny_mono (turn i v I oI C oC D m₂ ys h tk E' (by omega) hv hC hx F N off ne) (fun y s₂ hq => ?_) fun _ _ e => e
      obtain ⟨h', tk', nw, e, F', N', off', hS, rfl, hV⟩ := hq
      refine ⟨h', tk', nw, e, F', N', off', hS, ?_⟩
      refine ih (i + 1) _ (by omega) ?_
      rw [List.range_succ]
      exact hy.snoc hV
  exact key _ 0 [] (by omega) .nil
end
end
section
open PySem PySem.W PyProof.Rows PyProof.V PySem.Spec PySem.Calls
set_option Elab.async false
set_option maxRecDepth 100000
noncomputable def lawDef : Stmt := PySem.Challenge.pw_tv0051_01.main.body.getLastD (.Pass default)
noncomputable def lawBody : List Stmt := match lawDef with | .FunctionDef _ _ b _ _ _ _ _ _ _ => b | _ => []
noncomputable def lawScope : Scope := match lawDef with | .FunctionDef _ _ _ _ _ _ sc _ _ _ => sc | _ => default
noncomputable def forBody (k : Nat) : List Stmt := match lawBody[k]? with | some (.For _ _ b _ _) => b | _ => []
theorem strs_item_eq {prog : Program} {w : World} {A : Around} {E : Value → Shared → Prop} {s : Shared} {value slice : PySem.Expr} {l : Addr} {vs : List Value} {xs : List Str} {k : Int} {u : Tok} {x : Str} {Q : Value → Shared → Prop}
    (hl : s.heap.IsList l vs.toArray) (hS : StrsAre vs xs) (h0 : 0 ≤ k) (hk : k < xs.length) (hx : xs.length ≤ 1000) (e : xs.getD k.toNat (Str.ofString "") = x) (h : ∀ t, Q (.str x t) s)
    (hs : subscripted slice false (.ref l) (.int k u) = operate [.ref l, .int k u] (getItem (.ref l) (.int k u)) := by with_unfolding_all rfl) :
    wpAny (model prog w) A (subscriptTail value slice (.ref l) (.int k u)) Q E s := strs_item hl hS h0 hk hx (fun t => e ▸ h t) hs
noncomputable abbrev st2 : List Str := [Str.ofString "behind", Str.ofString "beginnings", Str.ofString "place", Str.ofString "crooked", Str.ofString "quotient", Str.ofString "rest", Str.ofString "number", Str.ofString "due", Str.ofString "middle", Str.ofString "apart", Str.ofString "other"]
noncomputable def preS (x : Str) (k : Nat) : Str := Txt.slice x none (some (k : Int))
noncomputable def begs (x : Str) (n : Nat) : List Str := (List.range (n + 1)).map (preS x)
theorem begs_len (x : Str) (n : Nat) : (begs x n).length = n + 1 := by simp [begs]
theorem rng_small {n : Nat} {b : Int} (h : b = n) (hn : n ≤ 1000) : Builtin.Range.small 0 b 1 = true := by rw [h]; exact small_one (by omega) (by omega) (by omega) (by omega)
theorem rng_size {n : Nat} {b : Int} (h : b = n) : Builtin.Range.rangeSize 0 b 1 = (n : Int) := by rw [h, rangeSize_nat]; simp
noncomputable def plF (x : Str) (n : Nat) : Int := bisF (fun i => keyF ((begs x n).getD i (Str.ofString ""))) 10 1 ((n : Int) - 1)
noncomputable def BegOk (x : Str) (n : Nat) : Prop := ∀ y ∈ begs x n, y.length ≤ 10 ∧ Blank y
theorem my_from {vs : List Value} {x : Int} (h : 0 ≤ x) : (slicePick vs.toArray (some x) none none).toList = vs.drop x.toNat := by
  have e : sliceBounds (some x) none none vs.toArray.size = (((min x.toNat vs.toArray.size : Nat) : Int), ((vs.toArray.size : Nat) : Int), 1) := by
    simp only [sliceBounds, Option.getD_none, show (1 : Int) > 0 by decide, if_true, if_neg (show ¬ (x < 0) by omega)]
    congr 1
    omega
  rw [kmk_pick_nat _ e]
  show ((vs.drop (min x.toNat vs.toArray.size)).take (vs.toArray.size - min x.toNat vs.toArray.size)) = _
  rw [List.size_toArray, kmk_drop_min, List.take_of_length_le (by rw [List.length_drop]; omega)]
theorem ints_last {prog : Program} {w : World} {A : Around} {E : Value → Shared → Prop} {s : Shared} {value slice : PySem.Expr} {l : Addr} {vs : List Value} {ns : List Int} {u : Tok} {Q : Value → Shared → Prop}
    (hl : s.heap.IsList l vs.toArray) (hS : IntsAre vs ns) (hk : 1 ≤ ns.length) (hx : ns.length ≤ 1000) (h : ∀ t, Q (.int (ns.getD (ns.length - 1) 0) t) s)
    (hs : subscripted slice false (.ref l) (.int (-1) u) = operate [.ref l, .int (-1) u] (getItem (.ref l) (.int (-1) u)) := by with_unfolding_all rfl) :
    wpAny (model prog w) A (subscriptTail value slice (.ref l) (.int (-1) u)) Q E s := by
  have e0 := hS.length
  obtain ⟨t, ht⟩ := hS.get (ns.length - 1) (ns.getD (ns.length - 1) 0) (by rw [List.getD_eq_getElem?_getD, List.getElem?_eq_getElem (by omega)]; rfl)
  refine tail_any hl.typeIs slot_list_getitem.lookup (wpAny_getItem_list_neg hl (by decide) (by rw [List.size_toArray]; omega) (by decide) ?_ (h t)) hs
  rw [List.size_toArray, show ((-1 : Int) + (vs.length : Int)).toNat = ns.length - 1 by omega]
  simpa using ht
theorem map_range_getD {α β : Type} (f : α → β) (d : α) (l : List α) : (List.range l.length).map (fun i => f (l.getD i d)) = l.map f := by
  refine List.ext_getElem (by simp) fun i h1 h2 => ?_
  simp at h1
  simp [List.getD, h1]
/-- what the beginnings behind the place say -/
noncomputable def crk (x : Str) (n : Nat) (p : Int) : List Int := ((begs x n).drop p.toNat).map keyF
theorem crk_len (x : Str) (n : Nat) (p : Int) : (crk x n p).length = n + 1 - p.toNat := by simp [crk, begs_len]
end
section
open PySem PySem.W PyProof.Rows PyProof.V PySem.Spec PySem.Calls
set_option Elab.async false
set_option maxRecDepth 100000
set_option maxHeartbeats 8000000
noncomputable def strip (l : List Int) : List Int := (l.reverse.dropWhile (· == 0)).reverse
theorem split_last {l : List Int} (h : 1 ≤ l.length) : ∃ r x, l = r ++ [x] ∧ l.getD (l.length - 1) 0 = x ∧ l.dropLast = r := by
  have hne : l ≠ [] := fun e => by rw [e] at h; simp at h
  refine ⟨l.dropLast, l.getLast hne, (List.dropLast_concat_getLast hne).symm, ?_, rfl⟩
  rw [List.getLast_eq_getElem]
  simp [List.getD, List.getElem?_eq_getElem (show l.length - 1 < l.length by omega)]
theorem strip_zero {l : List Int} (h : 1 ≤ l.length) (h0 : l.getD (l.length - 1) 0 = 0) : strip l.dropLast = strip l := by
  obtain ⟨r, x, e1, e2, e3⟩ := split_last h
  rw [e3]
  rw [h0] at e2
  rw [e1, ← e2]
  simp [strip]
theorem strip_done {l : List Int} (h : 1 ≤ l.length) (h0 : ¬ l.getD (l.length - 1) 0 = 0) : strip l = l := by
  obtain ⟨r, x, e1, e2, e3⟩ := split_last h
  rw [e2] at h0
  rw [e1]
  simp [strip, h0]
section
variable {prog : Program} {w : World} {A : Around} {E : Value → Shared → Prop} {s : Shared} {env : Env} {h₀ : Heap} {L : Addr} {Q : Flow → Shared → Prop}
noncomputable def PopPost (h₀ : Heap) (L D : Addr) (rest : List (Addr × Obj)) (m₀ : Str → Option Value) (ns : List Int) (s : Shared) (Q : Flow → Shared → Prop) (f : Flow) (s₂ : Shared) : Prop :=
  match f with
  | .ret v => Q (.ret v) s₂
  | .brk => Q .next s₂
  | _ => ∃ (vs : List Value) (e : Nat) (h : Heap) (tk : Nat), s₂ = { s with heap := h, toks := tk } ∧ Fr h₀ L h m₀ ∧ News h₀ L h ((D, listOf vs.toArray e) :: rest) ∧ IntsAre vs ns.dropLast ∧ ns.getD (ns.length - 1) 0 = 0
noncomputable def PopEnd (h₀ : Heap) (L D : Addr) (rest : List (Addr × Obj)) (m₀ : Str → Option Value) (vs : List Value) (ns : List Int) (s s₂ : Shared) : Prop :=
  ∃ (e : Nat) (h : Heap) (tk : Nat), s₂ = { s with heap := h, toks := tk } ∧ Fr h₀ L h m₀ ∧ News h₀ L h ((D, listOf vs.toArray e) :: rest) ∧ ¬ ns.getD (ns.length - 1) 0 = 0
theorem PopEnd.mk' {D : Addr} {rest : List (Addr × Obj)} {m₀ : Str → Option Value} {vs : List Value} {ns : List Int} {e : Nat} {h : Heap} {tk : Nat} (F : Fr h₀ L h m₀) (N : News h₀ L h ((D, listOf vs.toArray e) :: rest)) (hz : ¬ ns.getD (ns.length - 1) 0 = 0) : PopEnd h₀ L D rest m₀ vs ns s { s with heap := h, toks := tk } := ⟨e, h, tk, rfl, F, N, hz⟩
theorem pop_loop {test : Expr} {body : List Stmt} {pos : Pos} {m₀ : Str → Option Value} {D : Addr} {rest : List (Addr × Obj)} {vs : List Value} {ns₀ : List Int} {e : Nat}
    (F : Fr h₀ L s.heap m₀) (N : News h₀ L s.heap ((D, listOf vs.toArray e) :: rest)) (hi : IntsAre vs ns₀) (hne : strip ns₀ ≠ []) (hl : ns₀.length ≤ 10)
    (turn : ∀ (vs : List Value) (ns : List Int) (e : Nat) (h : Heap) (tk : Nat), IntsAre vs ns → 1 ≤ ns.length → ns.length ≤ 1000 → Fr h₀ L h m₀ → News h₀ L h ((D, listOf vs.toArray e) :: rest) →
      wpAny (model prog w) A (isTrue test env (eval test env)) (fun b s₂ =>
        if b = true then wpAny (model prog w) A (execs body env) (PopPost h₀ L D rest m₀ ns s Q) E s₂ else PopEnd h₀ L D rest m₀ vs ns s s₂) E { s with heap := h, toks := tk })
    (done : ∀ (vs : List Value) (e : Nat) (h : Heap) (tk : Nat), IntsAre vs (strip ns₀) → Fr h₀ L h m₀ → News h₀ L h ((D, listOf vs.toArray e) :: rest) → Q .next { s with heap := h, toks := tk })
    (hE : PassesOwn (model prog w) A env E := by passes_own) :
    wpAny (model prog w) A (exec (.While test body [] pos) env) Q E s := by
  refine While_inv2 (fun n m nx => m = m₀ ∧ ∃ (vs : List Value) (ns : List Int) (e : Nat), nx = (D, listOf vs.toArray e) :: rest ∧ IntsAre vs ns ∧ ns.length = n ∧ strip ns = strip ns₀ ∧ n ≤ 10) F N ⟨rfl, vs, ns₀, e, rfl, hi, rfl, rfl, hl⟩ ?_ hE
  rintro n m₁ nx h tk F₁ N₁ ⟨rfl, vs, ns, e, rfl, h1, rfl, h2, h3⟩
  have hpos : 1 ≤ ns.length := by
    rcases Nat.eq_zero_or_pos ns.length with q | q
    · rw [List.eq_nil_of_length_eq_zero q] at h2
      exact absurd h2.symm hne
    · exact q
  refine wpAny_mono (turn vs ns e h tk h1 hpos (by omega) F₁ N₁) (fun b s₂ p => ?_) fun _ _ x => x
  cases b with
  | false =>
    simp only [Bool.false_eq_true, if_false] at p ⊢
    obtain ⟨e', h', tk', rfl, F', N', hz⟩ := p
    rw [strip_done hpos hz] at h2
    exact done vs e' h' tk' (h2 ▸ h1) F' N'
  | true =>
    simp only [if_true] at p ⊢
    refine wpAny_mono p (fun f s₃ q => ?_) fun _ _ x => x
    cases f with
    | ret v => exact q
    | brk => exact q
    | next =>
      obtain ⟨vs', e', h', tk', rfl, F', N', hi', hz⟩ := q
      exact ⟨h', tk', _, _, ns.dropLast.length, rfl, F', N', by rw [List.length_dropLast]; omega, rfl, vs', ns.dropLast, e', rfl, hi', rfl, (strip_zero hpos hz).trans h2, by rw [List.length_dropLast]; omega⟩
    | cont =>
      obtain ⟨vs', e', h', tk', rfl, F', N', hi', hz⟩ := q
      exact ⟨h', tk', _, _, ns.dropLast.length, rfl, F', N', by rw [List.length_dropLast]; omega, rfl, vs', ns.dropLast, e', rfl, hi', rfl, (strip_zero hpos hz).trans h2, by rw [List.length_dropLast]; omega⟩
end
/-- the lead's signs as bits, and its number -/
noncomputable def bitsF (x : Str) : List Int := x.cps.toList.map bitF
noncomputable def numF (x : Str) : Int := dR (2 ^ (1 : Int).toNat) (bitsF x) 0 (bitsF x).length
theorem bits_dok {x : Str} (h : x.length ≤ 6) : DigOk 1 (bitsF x) := by
  have e : (bitsF x).length = x.length := by simp [bitsF, Str.length]
  refine ⟨by decide, by decide, by omega, fun y hy => ?_⟩
  obtain ⟨c, _, rfl⟩ := List.mem_map.mp hy
  unfold bitF
  split <;> decide
/-- the number due -/
noncomputable def nextF (x : Str) (p : Int) : Int := (numF x).fdiv (2 ^ p.toNat) * 2 ^ p.toNat + 2 * (numF x).fmod (2 ^ p.toNat) - ((numF x).fdiv (2 ^ p.toNat)).fmod 2 * (2 ^ p.toNat - 1)
theorem Fr.as2 {h₀ h : Heap} {L : Addr} {m : Str → Option Value} {a b : Str} {va vb : Value} (F : Fr h₀ L h m) (ha : m a = some va) (hb : m b = some vb) : Fr h₀ L h (fun y => if y = a then some va else if y = b then some vb else m y) := by
  have e : m = fun y => if y = a then some va else if y = b then some vb else m y := by
    funext y
    by_cases h1 : y = a
    · rw [if_pos h1, h1, ha]
    · rw [if_neg h1]
      by_cases h2 : y = b
      · rw [if_pos h2, h2, hb]
      · rw [if_neg h2]
  rw [e] at F
  exact F
end
end
section
open PySem PySem.W PyProof.Rows
set_option Elab.async false
set_option maxRecDepth 100000
set_option maxHeartbeats 8000000
local macro_rules | `(tactic| k_mem) => `(tactic| ((repeat (first | with_reducible assumption | with_reducible refine List.mem_cons_of_mem _ ?_)); done))
local macro_rules | `(tactic| is_list) => `(tactic| exact News.isList (by k_asm) (by (repeat (first | assumption | with_reducible refine List.mem_cons_of_mem _ ?_)); done))
local macro_rules | `(tactic| walk_at "exec While") => `(tactic| (k_here; refine mark_of ?_))
noncomputable abbrev st2b : List Str := [Str.ofString "quotient", Str.ofString "rest", Str.ofString "number", Str.ofString "due"]
theorem turn2b {w : World} {loose : List Str} {mean : ExcName → Option Value} {mg mb : Str → Option Value} {base : Heap} {L fa : Addr} {cd : Value} {s : Shared} {P : Flow → Shared → Prop} {E : Value → Shared → Prop} {m₁ : Str → Option Value} {ld I D2 c1 c2 : Addr} {w1 w2 w3 oI k1 k2 : Obj} {vs zs : List Value} {e : Nat} {f1 f2 : Array Value} {tl tp tb u1 u2 : Tok} {p : Int} {lead behind : Str}
    (K : Below callerA base [] base) (X : (hd.heap_39 w.params).In base) (T : Top topProg loose mean mg mb base) (hC1 : CodeHd base 57 53) (hC2 : CodeHd base 50 46) (hL1 : @LT.lt Nat _ 53 L) (hL2 : @LT.lt Nat _ 46 L)
    (F : Fr base L s.heap (fun y => if y = Str.ofString "place" then some (.int p tp) else if y = Str.ofString "behind" then some (.str behind tb) else m₁ y))
    (N : News base L s.heap [(D2, LCg.lst zs), (I, oI), (ld, listOf vs.toArray e), (53, tabObj #[rawInt (71 : Nat), rawInt (4 : Nat), .ref c1]), (46, tabObj #[rawInt (56 : Nat), rawInt (4 : Nat), .ref c2]), (L + 1 + 1 + 1, w3), (L + 1 + 1, w2), (L + 1, w1), (c1, k1), (c2, k2)])
    (d3 : w3.data = .cell (some (.str lead tl))) (dk1 : k1.data = .fields f1) (df1 : f1[1]? = some (.str QD u1)) (dk2 : k2.data = .fields f2) (df2 : f2[1]? = some (.str QI u2))
    (hn1 : (@Ne Nat D2 53) ∧ (@Ne Nat I 53) ∧ (@Ne Nat ld 53) ∧ (@Ne Nat c1 53) ∧ (@Ne Nat c2 53)) (hn2 : (@Ne Nat D2 46) ∧ (@Ne Nat I 46) ∧ (@Ne Nat ld 46) ∧ (@Ne Nat c1 46) ∧ (@Ne Nat c2 46))
    (hl1 : lead.length ≤ 6) (hl2 : behind.length ≤ 6) (hB1 : Blank lead) (hB2 : Blank behind) (hp1 : 1 ≤ p) (hp2 : p ≤ 6)
    (hg5 : IDM (numF lead) (2 ^ p.toNat)) (hg6 : strip (bitsF behind) ≠ []) (hg7 : I2D (nextF lead p) 1) (hg8 : digs (2 ^ (1 : Int).toNat) (nextF lead p) (ndig (nextF lead p) 1) = strip (bitsF behind))
    (hg9 : Builtin.Int.intBits (numF lead) ≤ 100)
    (hPass : PassesOwn (model PySem.Challenge.rw_tv0051_01.row.prog w) (callerA.deeper (envOfC (Str.ofString "law") lawScope L fa cd)) (envOfC (Str.ofString "law") lawScope L fa cd) E)
    (hQ : ∀ (h' : Heap) (tk' : Nat) (m' : Str → Option Value) (cA cB : Addr) (kA kB : Obj) (fA fB : Array Value) (uA uB : Tok), Fr base L h' m' → (∀ z, st2b.contains z = false → m' z = if z = Str.ofString "place" then some (.int p tp) else if z = Str.ofString "behind" then some (.str behind tb) else m₁ z) →
      News base L h' [(D2, LCg.lst zs), (I, oI), (ld, listOf vs.toArray e), (53, tabObj #[rawInt (71 : Nat), rawInt (4 : Nat), .ref cA]), (46, tabObj #[rawInt (56 : Nat), rawInt (4 : Nat), .ref cB]), (L + 1 + 1 + 1, w3), (L + 1 + 1, w2), (L + 1, w1), (cA, kA), (cB, kB)] → kA.data = .fields fA → fA[1]? = some (.str QD uA) → kB.data = .fields fB → fB[1]? = some (.str QI uB) →
      wpAny (model PySem.Challenge.rw_tv0051_01.row.prog w) (callerA.deeper (envOfC (Str.ofString "law") lawScope L fa cd)) (execs ((forBody 15).drop 12) (envOfC (Str.ofString "law") lawScope L fa cd)) P E { s with heap := h', toks := tk' }) :
    wpAny (model PySem.Challenge.rw_tv0051_01.row.prog w) (callerA.deeper (envOfC (Str.ofString "law") lawScope L fa cd)) (execs ((forBody 15).drop 7) (envOfC (Str.ofString "law") lawScope L fa cd)) P E s := by
  conv in List.drop 7 (forBody 15) => whnf
  conv in (occs := *) lawScope => all_goals whnf
  revert X
  k_fill
  intro X
  (repeat' (first | (k_unfold; (try dsimp only)) | ((first | (with_reducible (k_here; (with_reducible show wpAny _ _ (call (Value.ref 152) _) _ _ _); refine mark_of ?_)) | (with_reducible (k_here; (with_reducible show wpAny _ _ (call (Value.ref 51) _) _ _ _); refine mark_of ?_)) | (with_reducible (k_here; (with_reducible show wpAny _ _ (call (Value.ref 72) _) _ _ _); refine mark_of ?_)) | (with_reducible (k_here; (with_reducible show wpAny _ _ (call (Value.ref 58) _) _ _ _); refine mark_of ?_)) | (with_reducible (k_here; (with_reducible show wpAny _ _ (call (Value.ref 178) _) _ _ _); refine mark_of ?_)) | (with_reducible (k_here; (with_reducible show wpAny _ _ (execs (Stmt.If (Expr.Compare (Expr.Call _ _ _ _) _ [Expr.Constant _ _ _] _) _ _ _ :: _) _) _ _ _); refine mark_of ?_)) | (with_reducible (k_here; with_reducible refine mul_int ?_ (mulOk_of_bits (by assumption) (by assumption) (by decide)))) | (with_reducible (k_here; (with_reducible show wpAny _ _ (subscriptTail _ _ (Value.ref _) (Value.int (-1) _)) _ _ _); (with_unfolding_all refine' ints_last ?k1 ?k2 ?k3 ?k4 ?_ ?k6; (case k1 => exact News.isList (by k_asm) (by k_mem)); (case k2 => assumption); (case k3 => assumption); (case k4 => assumption); (case k6 => with_unfolding_all rfl); k_whole); intro t9qi)) | (with_reducible (k_here; (with_reducible show wpAny _ _ (subscriptTail _ _ (Value.ref _) (Value.int (-1) _)) _ _ _); (with_unfolding_all refine' ints_last ?k1 ?k2 ?k3 ?k4 ?_ ?k6; (case k1 => exact News.isList (by k_asm) (by k_mem)); (case k2 => assumption); (case k3 => assumption); (case k4 => assumption); (case k6 => with_unfolding_all rfl); k_whole); intro t9qi)) | (with_reducible (k_here; (with_reducible show wpAny _ _ (storeName _ _ _) _ _ _); k_dflt ((first | refine' stI ?F ?N ?_ ?a ?b | refine' stS ?F ?N ?_ ?a ?b | refine' stA ?F ?N ?_ ?a ?b); (case F => k_asm); (case N => k_asm); (case a => exact Eq.refl ScopeKind.function); (case b => exact Eq.refl (some NameKind.local)); k_whole; intro hqi tqi uqi Fqi Nqi; (try k_sweep)))) | (with_reducible (k_here; (with_reducible show wpAny _ _ (eval (Expr.Name _ _) _) _ _ _); k_dflt (refine' nameX_L ?F ?v ?_ ?a ?b ?d; (case F => k_asm); (case a => exact Eq.refl ScopeKind.function); (case b => exact Eq.refl (some NameKind.local)); (case d => exact Eq.refl false); (case v => exact Eq.refl (some _)); k_whole)))); (all_goals (try dsimp only))) | (walk1; (all_goals (try dsimp only))) | (dsimp only; walk1)))
  refine mark_in ?_
  k_dflt (refine' (bits_c lead _).use ?k1 ?k2 ?k3 ?k4 ?k5 ?kK ?kp ?kd ?ku ?_; (case k1 => k_asm); (case k2 => k_asm); (case k3 => k_asm); (case k4 => k_asm); (case k5 => k_asm); (case kK => first | exact rfl | assumption))
  case kp => exact ⟨by omega, hB1⟩
  case kd => exact Nat.le_of_ble_eq_true rfl
  case ku => exact Nat.le_of_ble_eq_true rfl
  intro x1 o1 h1 tk1 g1 F1 N1 O1
  obtain ⟨bv, bn, eo1, hbv⟩ := g1
  subst eo1
  simp only [LCg.Off1] at O1
  try dsimp only
  have hdok := bits_dok hl1
  (repeat' (first | (k_unfold; (try dsimp only)) | ((first | (with_reducible (k_here; (with_reducible show wpAny _ _ (call (Value.ref 152) _) _ _ _); refine mark_of ?_)) | (with_reducible (k_here; (with_reducible show wpAny _ _ (call (Value.ref 51) _) _ _ _); refine mark_of ?_)) | (with_reducible (k_here; (with_reducible show wpAny _ _ (call (Value.ref 72) _) _ _ _); refine mark_of ?_)) | (with_reducible (k_here; (with_reducible show wpAny _ _ (call (Value.ref 58) _) _ _ _); refine mark_of ?_)) | (with_reducible (k_here; (with_reducible show wpAny _ _ (call (Value.ref 178) _) _ _ _); refine mark_of ?_)) | (with_reducible (k_here; (with_reducible show wpAny _ _ (execs (Stmt.If (Expr.Compare (Expr.Call _ _ _ _) _ [Expr.Constant _ _ _] _) _ _ _ :: _) _) _ _ _); refine mark_of ?_)) | (with_reducible (k_here; with_reducible refine mul_int ?_ (mulOk_of_bits (by assumption) (by assumption) (by decide)))) | (with_reducible (k_here; (with_reducible show wpAny _ _ (subscriptTail _ _ (Value.ref _) (Value.int (-1) _)) _ _ _); (with_unfolding_all refine' ints_last ?k1 ?k2 ?k3 ?k4 ?_ ?k6; (case k1 => exact News.isList (by k_asm) (by k_mem)); (case k2 => assumption); (case k3 => assumption); (case k4 => assumption); (case k6 => with_unfolding_all rfl); k_whole); intro t9qi)) | (with_reducible (k_here; (with_reducible show wpAny _ _ (subscriptTail _ _ (Value.ref _) (Value.int (-1) _)) _ _ _); (with_unfolding_all refine' ints_last ?k1 ?k2 ?k3 ?k4 ?_ ?k6; (case k1 => exact News.isList (by k_asm) (by k_mem)); (case k2 => assumption); (case k3 => assumption); (case k4 => assumption); (case k6 => with_unfolding_all rfl); k_whole); intro t9qi)) | (with_reducible (k_here; (with_reducible show wpAny _ _ (storeName _ _ _) _ _ _); k_dflt ((first | refine' stI ?F ?N ?_ ?a ?b | refine' stS ?F ?N ?_ ?a ?b | refine' stA ?F ?N ?_ ?a ?b); (case F => k_asm); (case N => k_asm); (case a => exact Eq.refl ScopeKind.function); (case b => exact Eq.refl (some NameKind.local)); k_whole; intro hqi tqi uqi Fqi Nqi; (try k_sweep)))) | (with_reducible (k_here; (with_reducible show wpAny _ _ (eval (Expr.Name _ _) _) _ _ _); k_dflt (refine' nameX_L ?F ?v ?_ ?a ?b ?d; (case F => k_asm); (case a => exact Eq.refl ScopeKind.function); (case b => exact Eq.refl (some NameKind.local)); (case d => exact Eq.refl false); (case v => exact Eq.refl (some _)); k_whole)))); (all_goals (try dsimp only))) | (walk1; (all_goals (try dsimp only))) | (dsimp only; walk1)))
  refine mark_in ?_
  (with_reducible rename News _ _ _ _ => kN)
  k_dflt (refine (d2i_core x1 bv (bitsF lead) bn 1 _ _ _).use (by k_asm) (by k_asm) (by k_asm) (News.sub kN (List.forall_mem_cons.mpr ⟨(.tail _ (.tail _ (.tail _ (.tail _ (.head _))))), List.forall_mem_cons.mpr ⟨(.head _), List.forall_mem_cons.mpr ⟨(.tail _ (.head _)), List.forall_mem_cons.mpr ⟨(.tail _ (.tail _ (.head _))), List.forall_mem_cons.mpr ⟨(.tail _ (.tail _ (.tail _ (.head _)))), List.forall_mem_cons.mpr ⟨(.tail _ (.tail _ (.tail _ (.tail _ (.tail _ (.head _)))))), List.forall_mem_cons.mpr ⟨(.tail _ (.tail _ (.tail _ (.tail _ (.tail _ (.tail _ (.head _))))))), List.forall_mem_cons.mpr ⟨(.tail _ (.tail _ (.tail _ (.tail _ (.tail _ (.tail _ (.tail _ (.head _)))))))), List.forall_mem_cons.mpr ⟨(.tail _ (.tail _ (.tail _ (.tail _ (.tail _ (.tail _ (.tail _ (.tail _ (.head _))))))))), List.forall_mem_cons.mpr ⟨(.tail _ (.tail _ (.tail _ (.tail _ (.tail _ (.tail _ (.tail _ (.tail _ (.tail _ (.head _)))))))))), List.forall_mem_cons.mpr ⟨(.tail _ (.tail _ (.tail _ (.tail _ (.tail _ (.tail _ (.tail _ (.tail _ (.tail _ (.tail _ (.head _))))))))))), List.forall_mem_nil _⟩⟩⟩⟩⟩⟩⟩⟩⟩⟩⟩)) (by k_asm) rfl ⟨hC1, rfl, ⟨by omega, by omega, by omega, by omega, by show @Ne Nat 46 53; decide, by show @Ne Nat (L + 1 + 1 + 1) 53; omega, by show @Ne Nat (L + 1 + 1) 53; omega, by show @Ne Nat (L + 1) 53; omega, by omega, by omega, trivial⟩, .of1 (.tail _ (.tail _ (.tail _ (.tail _ (.tail _ (.tail _ (.tail _ (.tail _ (.head _))))))))) dk1 df1, .head _, hbv, hdok⟩ (Nat.le_of_ble_eq_true rfl) (Nat.le_of_ble_eq_true rfl) ?_)
  intro v2 h2 tk2 nw2 g2 F2 N2
  clear kN
  obtain ⟨u9, c1', k1', f1', u1', y1, y2, y3, y4, y5⟩ := g2
  subst y1
  subst y2
  try dsimp only
  (repeat' (first | (k_unfold; (try dsimp only)) | ((first | (with_reducible (k_here; (with_reducible show wpAny _ _ (call (Value.ref 152) _) _ _ _); refine mark_of ?_)) | (with_reducible (k_here; (with_reducible show wpAny _ _ (call (Value.ref 51) _) _ _ _); refine mark_of ?_)) | (with_reducible (k_here; (with_reducible show wpAny _ _ (call (Value.ref 72) _) _ _ _); refine mark_of ?_)) | (with_reducible (k_here; (with_reducible show wpAny _ _ (call (Value.ref 58) _) _ _ _); refine mark_of ?_)) | (with_reducible (k_here; (with_reducible show wpAny _ _ (call (Value.ref 178) _) _ _ _); refine mark_of ?_)) | (with_reducible (k_here; (with_reducible show wpAny _ _ (execs (Stmt.If (Expr.Compare (Expr.Call _ _ _ _) _ [Expr.Constant _ _ _] _) _ _ _ :: _) _) _ _ _); refine mark_of ?_)) | (with_reducible (k_here; with_reducible refine mul_int ?_ (mulOk_of_bits (by assumption) (by assumption) (by decide)))) | (with_reducible (k_here; (with_reducible show wpAny _ _ (subscriptTail _ _ (Value.ref _) (Value.int (-1) _)) _ _ _); (with_unfolding_all refine' ints_last ?k1 ?k2 ?k3 ?k4 ?_ ?k6; (case k1 => exact News.isList (by k_asm) (by k_mem)); (case k2 => assumption); (case k3 => assumption); (case k4 => assumption); (case k6 => with_unfolding_all rfl); k_whole); intro t9qi)) | (with_reducible (k_here; (with_reducible show wpAny _ _ (subscriptTail _ _ (Value.ref _) (Value.int (-1) _)) _ _ _); (with_unfolding_all refine' ints_last ?k1 ?k2 ?k3 ?k4 ?_ ?k6; (case k1 => exact News.isList (by k_asm) (by k_mem)); (case k2 => assumption); (case k3 => assumption); (case k4 => assumption); (case k6 => with_unfolding_all rfl); k_whole); intro t9qi)) | (with_reducible (k_here; (with_reducible show wpAny _ _ (storeName _ _ _) _ _ _); k_dflt ((first | refine' stI ?F ?N ?_ ?a ?b | refine' stS ?F ?N ?_ ?a ?b | refine' stA ?F ?N ?_ ?a ?b); (case F => k_asm); (case N => k_asm); (case a => exact Eq.refl ScopeKind.function); (case b => exact Eq.refl (some NameKind.local)); k_whole; intro hqi tqi uqi Fqi Nqi; (try k_sweep)))) | (with_reducible (k_here; (with_reducible show wpAny _ _ (eval (Expr.Name _ _) _) _ _ _); k_dflt (refine' nameX_L ?F ?v ?_ ?a ?b ?d; (case F => k_asm); (case a => exact Eq.refl ScopeKind.function); (case b => exact Eq.refl (some NameKind.local)); (case d => exact Eq.refl false); (case v => exact Eq.refl (some _)); k_whole)))); (all_goals (try dsimp only))) | (walk1; (all_goals (try dsimp only))) | (dsimp only; walk1)))
  have m1 : @Ne Nat (L + 1) 53 := by omega
  have m2 : @Ne Nat (L + 1 + 1) 53 := by omega
  have m3 : @Ne Nat (L + 1 + 1 + 1) 53 := by omega
  have m4 : @Ne Nat (L + 1) 46 := by omega
  have m5 : @Ne Nat (L + 1 + 1) 46 := by omega
  have m6 : @Ne Nat (L + 1 + 1 + 1) 46 := by omega
  have hc46 : @Ne Nat c1' 46 := code_ne N2 (.head _) (.tail _ (.tail _ (.tail _ (.tail _ (.tail _ (.tail _ (.head _))))))) y3 y4 (.inr ⟨_, _, _, rfl⟩)
  have hpw := p2_pos p.toNat
  have q2 : Builtin.Int.intBits (2 ^ p.toNat) ≤ 100 := Nat.le_trans (bits_of_lt (Int.le_of_lt hpw) (by rw [Int.pow_succ]; omega)) (show p.toNat + 1 ≤ 100 by omega)
  have q1 : Builtin.Int.intBits ((numF lead).fdiv (2 ^ p.toNat)) ≤ 100 := bits_fdiv hg9
  have q3 : Builtin.Int.intBits ((numF lead).fmod (2 ^ p.toNat)) ≤ 100 := bits_fmod_by (Int.ne_of_gt hpw) q2
  have q6 : Builtin.Int.intBits 2 ≤ 100 := by decide
  have q4 : Builtin.Int.intBits (((numF lead).fdiv (2 ^ p.toNat)).fmod 2) ≤ 100 := bits_fmod_by (by decide) q6
  have q5 : Builtin.Int.intBits (2 ^ p.toNat - 1) ≤ 101 := bits_sub q2 (show Builtin.Int.intBits 1 ≤ 100 by decide)
  refine mark_in ?_
  k_dflt (refine (id_con (numF lead) (2 ^ p.toNat) _ _ _ _ _).use (by k_asm) (by k_asm) (by k_asm) (News.sub N2 (List.forall_mem_cons.mpr ⟨(.tail _ (.head _)), List.forall_mem_cons.mpr ⟨(.tail _ (.tail _ (.tail _ (.tail _ (.tail _ (.tail _ (.head _))))))), List.forall_mem_cons.mpr ⟨(.head _), List.forall_mem_cons.mpr ⟨(.tail _ (.tail _ (.tail _ (.head _)))), List.forall_mem_cons.mpr ⟨(.tail _ (.tail _ (.tail _ (.tail _ (.head _))))), List.forall_mem_cons.mpr ⟨(.tail _ (.tail _ (.tail _ (.tail _ (.tail _ (.head _)))))), List.forall_mem_cons.mpr ⟨(.tail _ (.tail _ (.tail _ (.tail _ (.tail _ (.tail _ (.tail _ (.head _)))))))), List.forall_mem_cons.mpr ⟨(.tail _ (.tail _ (.tail _ (.tail _ (.tail _ (.tail _ (.tail _ (.tail _ (.head _))))))))), List.forall_mem_cons.mpr ⟨(.tail _ (.tail _ (.tail _ (.tail _ (.tail _ (.tail _ (.tail _ (.tail _ (.tail _ (.head _)))))))))), List.forall_mem_cons.mpr ⟨(.tail _ (.tail _ (.tail _ (.tail _ (.tail _ (.tail _ (.tail _ (.tail _ (.tail _ (.tail _ (.tail _ (.head _)))))))))))), List.forall_mem_nil _⟩⟩⟩⟩⟩⟩⟩⟩⟩⟩)) (by k_asm) rfl ⟨⟨hC1, hC2, rfl, ⟨y5, hn1.1, hn1.2.1, hn1.2.2.1, m3, m2, m1, hn1.2.2.2.2, trivial⟩, ⟨hc46, hn2.1, hn2.2.1, hn2.2.2.1, m6, m5, m4, hn2.2.2.2.2, trivial⟩, .of1 (.head _) y3 y4, .of1 (.tail _ (.tail _ (.tail _ (.tail _ (.tail _ (.tail _ (.tail _ (.head _)))))))) dk2 df2⟩, hg5⟩ (Nat.le_of_ble_eq_true rfl) (Nat.le_of_ble_eq_true rfl) ?_)
  intro v3 h3 tk3 nw3 g3 F3 N3
  clear N2 F2
  obtain ⟨x3, o3, c3, k3, f3, u3, c4, k4, f4, u4, w4, w5, ⟨z1, z2, w6⟩, w7, w8, w9, w10, w11, w12, w13⟩ := g3
  subst w4
  subst w5
  subst w6
  try dsimp only
  (repeat' (first | (k_unfold; (try dsimp only)) | ((first | (with_reducible (k_here; (with_reducible show wpAny _ _ (call (Value.ref 152) _) _ _ _); refine mark_of ?_)) | (with_reducible (k_here; (with_reducible show wpAny _ _ (call (Value.ref 51) _) _ _ _); refine mark_of ?_)) | (with_reducible (k_here; (with_reducible show wpAny _ _ (call (Value.ref 72) _) _ _ _); refine mark_of ?_)) | (with_reducible (k_here; (with_reducible show wpAny _ _ (call (Value.ref 58) _) _ _ _); refine mark_of ?_)) | (with_reducible (k_here; (with_reducible show wpAny _ _ (call (Value.ref 178) _) _ _ _); refine mark_of ?_)) | (with_reducible (k_here; (with_reducible show wpAny _ _ (execs (Stmt.If (Expr.Compare (Expr.Call _ _ _ _) _ [Expr.Constant _ _ _] _) _ _ _ :: _) _) _ _ _); refine mark_of ?_)) | (with_reducible (k_here; with_reducible refine mul_int ?_ (mulOk_of_bits (by assumption) (by assumption) (by decide)))) | (with_reducible (k_here; (with_reducible show wpAny _ _ (subscriptTail _ _ (Value.ref _) (Value.int (-1) _)) _ _ _); (with_unfolding_all refine' ints_last ?k1 ?k2 ?k3 ?k4 ?_ ?k6; (case k1 => exact News.isList (by k_asm) (by k_mem)); (case k2 => assumption); (case k3 => assumption); (case k4 => assumption); (case k6 => with_unfolding_all rfl); k_whole); intro t9qi)) | (with_reducible (k_here; (with_reducible show wpAny _ _ (subscriptTail _ _ (Value.ref _) (Value.int (-1) _)) _ _ _); (with_unfolding_all refine' ints_last ?k1 ?k2 ?k3 ?k4 ?_ ?k6; (case k1 => exact News.isList (by k_asm) (by k_mem)); (case k2 => assumption); (case k3 => assumption); (case k4 => assumption); (case k6 => with_unfolding_all rfl); k_whole); intro t9qi)) | (with_reducible (k_here; (with_reducible show wpAny _ _ (storeName _ _ _) _ _ _); k_dflt ((first | refine' stI ?F ?N ?_ ?a ?b | refine' stS ?F ?N ?_ ?a ?b | refine' stA ?F ?N ?_ ?a ?b); (case F => k_asm); (case N => k_asm); (case a => exact Eq.refl ScopeKind.function); (case b => exact Eq.refl (some NameKind.local)); k_whole; intro hqi tqi uqi Fqi Nqi; (try k_sweep)))) | (with_reducible (k_here; (with_reducible show wpAny _ _ (eval (Expr.Name _ _) _) _ _ _); k_dflt (refine' nameX_L ?F ?v ?_ ?a ?b ?d; (case F => k_asm); (case a => exact Eq.refl ScopeKind.function); (case b => exact Eq.refl (some NameKind.local)); (case d => exact Eq.refl false); (case v => exact Eq.refl (some _)); k_whole)))); (all_goals (try dsimp only))) | (walk1; (all_goals (try dsimp only))) | (dsimp only; walk1)))
  refine mark_in ?_
  k_dflt (refine' (bits_c behind _).use ?k1 ?k2 ?k3 ?k4 ?k5 ?kK ?kp ?kd ?ku ?_; (case k1 => k_asm); (case k2 => k_asm); (case k3 => k_asm); (case k4 => k_asm); (case k5 => k_asm); (case kK => first | exact rfl | assumption))
  case kp => exact ⟨by omega, hB2⟩
  case kd => exact Nat.le_of_ble_eq_true rfl
  case ku => exact Nat.le_of_ble_eq_true rfl
  intro x5 o5 h5 tk5 g5 F5 N5 O5
  obtain ⟨dv, dn, eo5, hdv⟩ := g5
  subst eo5
  simp only [LCg.Off1] at O5
  try dsimp only
  (repeat' (first | (k_unfold; (try dsimp only)) | ((first | (with_reducible (k_here; (with_reducible show wpAny _ _ (call (Value.ref 152) _) _ _ _); refine mark_of ?_)) | (with_reducible (k_here; (with_reducible show wpAny _ _ (call (Value.ref 51) _) _ _ _); refine mark_of ?_)) | (with_reducible (k_here; (with_reducible show wpAny _ _ (call (Value.ref 72) _) _ _ _); refine mark_of ?_)) | (with_reducible (k_here; (with_reducible show wpAny _ _ (call (Value.ref 58) _) _ _ _); refine mark_of ?_)) | (with_reducible (k_here; (with_reducible show wpAny _ _ (call (Value.ref 178) _) _ _ _); refine mark_of ?_)) | (with_reducible (k_here; (with_reducible show wpAny _ _ (execs (Stmt.If (Expr.Compare (Expr.Call _ _ _ _) _ [Expr.Constant _ _ _] _) _ _ _ :: _) _) _ _ _); refine mark_of ?_)) | (with_reducible (k_here; with_reducible refine mul_int ?_ (mulOk_of_bits (by assumption) (by assumption) (by decide)))) | (with_reducible (k_here; (with_reducible show wpAny _ _ (subscriptTail _ _ (Value.ref _) (Value.int (-1) _)) _ _ _); (with_unfolding_all refine' ints_last ?k1 ?k2 ?k3 ?k4 ?_ ?k6; (case k1 => exact News.isList (by k_asm) (by k_mem)); (case k2 => assumption); (case k3 => assumption); (case k4 => assumption); (case k6 => with_unfolding_all rfl); k_whole); intro t9qi)) | (with_reducible (k_here; (with_reducible show wpAny _ _ (subscriptTail _ _ (Value.ref _) (Value.int (-1) _)) _ _ _); (with_unfolding_all refine' ints_last ?k1 ?k2 ?k3 ?k4 ?_ ?k6; (case k1 => exact News.isList (by k_asm) (by k_mem)); (case k2 => assumption); (case k3 => assumption); (case k4 => assumption); (case k6 => with_unfolding_all rfl); k_whole); intro t9qi)) | (with_reducible (k_here; (with_reducible show wpAny _ _ (storeName _ _ _) _ _ _); k_dflt ((first | refine' stI ?F ?N ?_ ?a ?b | refine' stS ?F ?N ?_ ?a ?b | refine' stA ?F ?N ?_ ?a ?b); (case F => k_asm); (case N => k_asm); (case a => exact Eq.refl ScopeKind.function); (case b => exact Eq.refl (some NameKind.local)); k_whole; intro hqi tqi uqi Fqi Nqi; (try k_sweep)))) | (with_reducible (k_here; (with_reducible show wpAny _ _ (eval (Expr.Name _ _) _) _ _ _); k_dflt (refine' nameX_L ?F ?v ?_ ?a ?b ?d; (case F => k_asm); (case a => exact Eq.refl ScopeKind.function); (case b => exact Eq.refl (some NameKind.local)); (case d => exact Eq.refl false); (case v => exact Eq.refl (some _)); k_whole)))); (all_goals (try dsimp only))) | (walk1; (all_goals (try dsimp only))) | (dsimp only; walk1)))
  refine mark_in ?_
  (with_reducible rename News _ _ _ _ => kN; with_reducible rename Fr _ _ _ _ => kF)
  k_dflt (refine' pop_loop (ns₀ := bitsF behind) kF kN hdv hg6 (by rw [show (bitsF behind).length = behind.length from by simp [bitsF, Str.length]]; omega) ?turn ?done hPass)
  case turn =>
    clear kN kF
    intro vs6 ns6 e6 h6 tk6 hi6 hp6 hq6 F6 N6
    have hl6 : vs6.length = ns6.length := hi6.length
    have hl7 : 0 < vs6.length := by rw [hl6]; exact hp6
    have hl8 : vs6.length ≤ 1000 := by rw [hl6]; exact hq6
    (repeat' (first | (k_unfold; (try dsimp only)) | ((first | (with_reducible (k_here; (with_reducible show wpAny _ _ (call (Value.ref 152) _) _ _ _); refine mark_of ?_)) | (with_reducible (k_here; (with_reducible show wpAny _ _ (call (Value.ref 51) _) _ _ _); refine mark_of ?_)) | (with_reducible (k_here; (with_reducible show wpAny _ _ (call (Value.ref 72) _) _ _ _); refine mark_of ?_)) | (with_reducible (k_here; (with_reducible show wpAny _ _ (call (Value.ref 58) _) _ _ _); refine mark_of ?_)) | (with_reducible (k_here; (with_reducible show wpAny _ _ (call (Value.ref 178) _) _ _ _); refine mark_of ?_)) | (with_reducible (k_here; (with_reducible show wpAny _ _ (execs (Stmt.If (Expr.Compare (Expr.Call _ _ _ _) _ [Expr.Constant _ _ _] _) _ _ _ :: _) _) _ _ _); refine mark_of ?_)) | (with_reducible (k_here; with_reducible refine mul_int ?_ (mulOk_of_bits (by assumption) (by assumption) (by decide)))) | (with_reducible (k_here; (with_reducible show wpAny _ _ (subscriptTail _ _ (Value.ref _) (Value.int (-1) _)) _ _ _); (with_unfolding_all refine' ints_last ?k1 ?k2 ?k3 ?k4 ?_ ?k6; (case k1 => exact News.isList (by k_asm) (by k_mem)); (case k2 => assumption); (case k3 => assumption); (case k4 => assumption); (case k6 => with_unfolding_all rfl); k_whole); intro t9qi)) | (with_reducible (k_here; (with_reducible show wpAny _ _ (subscriptTail _ _ (Value.ref _) (Value.int (-1) _)) _ _ _); (with_unfolding_all refine' ints_last ?k1 ?k2 ?k3 ?k4 ?_ ?k6; (case k1 => exact News.isList (by k_asm) (by k_mem)); (case k2 => assumption); (case k3 => assumption); (case k4 => assumption); (case k6 => with_unfolding_all rfl); k_whole); intro t9qi)) | (with_reducible (k_here; (with_reducible show wpAny _ _ (storeName _ _ _) _ _ _); k_dflt ((first | refine' stI ?F ?N ?_ ?a ?b | refine' stS ?F ?N ?_ ?a ?b | refine' stA ?F ?N ?_ ?a ?b); (case F => k_asm); (case N => k_asm); (case a => exact Eq.refl ScopeKind.function); (case b => exact Eq.refl (some NameKind.local)); k_whole; intro hqi tqi uqi Fqi Nqi; (try k_sweep)))) | (with_reducible (k_here; (with_reducible show wpAny _ _ (eval (Expr.Name _ _) _) _ _ _); k_dflt (refine' nameX_L ?F ?v ?_ ?a ?b ?d; (case F => k_asm); (case a => exact Eq.refl ScopeKind.function); (case b => exact Eq.refl (some NameKind.local)); (case d => exact Eq.refl false); (case v => exact Eq.refl (some _)); k_whole)))); (all_goals (try dsimp only))) | (walk1; (all_goals (try dsimp only))) | (dsimp only; walk1)))
    all_goals (with_reducible rename News _ _ _ _ => kN9)
    all_goals (with_reducible rename Fr _ _ _ _ => kF9)
    · exact ⟨_, _, _, _, rfl, kF9, kN9, by assumption, by assumption⟩
    · exact PopEnd.mk' kF9 kN9 (by assumption)
  case done =>
    clear kN kF
    intro vs6 e6 h6 tk6 hi6 F6 N6
    have m7 : @Ne Nat x5 46 := by omega
    have m8 : @Ne Nat x5 53 := by omega
    (repeat' (first | (k_unfold; (try dsimp only)) | ((first | (with_reducible (k_here; (with_reducible show wpAny _ _ (call (Value.ref 152) _) _ _ _); refine mark_of ?_)) | (with_reducible (k_here; (with_reducible show wpAny _ _ (call (Value.ref 51) _) _ _ _); refine mark_of ?_)) | (with_reducible (k_here; (with_reducible show wpAny _ _ (call (Value.ref 72) _) _ _ _); refine mark_of ?_)) | (with_reducible (k_here; (with_reducible show wpAny _ _ (call (Value.ref 58) _) _ _ _); refine mark_of ?_)) | (with_reducible (k_here; (with_reducible show wpAny _ _ (call (Value.ref 178) _) _ _ _); refine mark_of ?_)) | (with_reducible (k_here; (with_reducible show wpAny _ _ (execs (Stmt.If (Expr.Compare (Expr.Call _ _ _ _) _ [Expr.Constant _ _ _] _) _ _ _ :: _) _) _ _ _); refine mark_of ?_)) | (with_reducible (k_here; with_reducible refine mul_int ?_ (mulOk_of_bits (by assumption) (by assumption) (by decide)))) | (with_reducible (k_here; (with_reducible show wpAny _ _ (subscriptTail _ _ (Value.ref _) (Value.int (-1) _)) _ _ _); (with_unfolding_all refine' ints_last ?k1 ?k2 ?k3 ?k4 ?_ ?k6; (case k1 => exact News.isList (by k_asm) (by k_mem)); (case k2 => assumption); (case k3 => assumption); (case k4 => assumption); (case k6 => with_unfolding_all rfl); k_whole); intro t9qi)) | (with_reducible (k_here; (with_reducible show wpAny _ _ (subscriptTail _ _ (Value.ref _) (Value.int (-1) _)) _ _ _); (with_unfolding_all refine' ints_last ?k1 ?k2 ?k3 ?k4 ?_ ?k6; (case k1 => exact News.isList (by k_asm) (by k_mem)); (case k2 => assumption); (case k3 => assumption); (case k4 => assumption); (case k6 => with_unfolding_all rfl); k_whole); intro t9qi)) | (with_reducible (k_here; (with_reducible show wpAny _ _ (storeName _ _ _) _ _ _); k_dflt ((first | refine' stI ?F ?N ?_ ?a ?b | refine' stS ?F ?N ?_ ?a ?b | refine' stA ?F ?N ?_ ?a ?b); (case F => k_asm); (case N => k_asm); (case a => exact Eq.refl ScopeKind.function); (case b => exact Eq.refl (some NameKind.local)); k_whole; intro hqi tqi uqi Fqi Nqi; (try k_sweep)))) | (with_reducible (k_here; (with_reducible show wpAny _ _ (eval (Expr.Name _ _) _) _ _ _); k_dflt (refine' nameX_L ?F ?v ?_ ?a ?b ?d; (case F => k_asm); (case a => exact Eq.refl ScopeKind.function); (case b => exact Eq.refl (some NameKind.local)); (case d => exact Eq.refl false); (case v => exact Eq.refl (some _)); k_whole)))); (all_goals (try dsimp only))) | (walk1; (all_goals (try dsimp only))) | (dsimp only; walk1)))
    refine mark_in ?_
    (with_reducible rename News _ _ _ _ => kN)
    k_dflt (refine (i2d_core (nextF lead p) 1 _ _ _ _).use (by k_asm) (by k_asm) (by k_asm) (News.sub kN (List.forall_mem_cons.mpr ⟨(.tail _ (.tail _ (.tail _ (.tail _ (.tail _ (.head _)))))), List.forall_mem_cons.mpr ⟨(.head _), List.forall_mem_cons.mpr ⟨(.tail _ (.tail _ (.tail _ (.tail _ (.head _))))), List.forall_mem_cons.mpr ⟨(.tail _ (.tail _ (.head _))), List.forall_mem_cons.mpr ⟨(.tail _ (.tail _ (.tail _ (.head _)))), List.forall_mem_cons.mpr ⟨(.tail _ (.tail _ (.tail _ (.tail _ (.tail _ (.tail _ (.tail _ (.head _)))))))), List.forall_mem_cons.mpr ⟨(.tail _ (.tail _ (.tail _ (.tail _ (.tail _ (.tail _ (.tail _ (.tail _ (.head _))))))))), List.forall_mem_cons.mpr ⟨(.tail _ (.tail _ (.tail _ (.tail _ (.tail _ (.tail _ (.tail _ (.tail _ (.tail _ (.head _)))))))))), List.forall_mem_cons.mpr ⟨(.tail _ (.tail _ (.tail _ (.tail _ (.tail _ (.tail _ (.tail _ (.tail _ (.tail _ (.tail _ (.head _))))))))))), List.forall_mem_cons.mpr ⟨(.tail _ (.tail _ (.tail _ (.tail _ (.tail _ (.tail _ (.tail _ (.tail _ (.tail _ (.tail _ (.tail _ (.head _)))))))))))), List.forall_mem_cons.mpr ⟨(.tail _ (.tail _ (.tail _ (.tail _ (.tail _ (.tail _ (.tail _ (.tail _ (.tail _ (.tail _ (.tail _ (.tail _ (.head _))))))))))))), List.forall_mem_nil _⟩⟩⟩⟩⟩⟩⟩⟩⟩⟩⟩)) (by k_asm) rfl ⟨hC2, rfl, ⟨m7, by show @Ne Nat 53 46; decide, w12.2.1, w12.2.2.1, hn2.1, hn2.2.1, hn2.2.2.1, m6, m5, m4, trivial⟩, .of1 (.tail _ (.tail _ (.tail _ (.head _)))) w9 w10, hg7⟩ (Nat.le_of_ble_eq_true rfl) (Nat.le_of_ble_eq_true rfl) ?_)
    intro v7 h7 tk7 nw7 g7 F7 N7
    clear kN
    obtain ⟨D5, vs7, e7, c5, k5, f5, u5, r1, r2, hi7, r4, r5, r6, r7, r8, r9⟩ := g7
    subst r1
    subst r2
    rw [hg8] at hi7
    try dsimp only
    (repeat' (first | (k_unfold; (try dsimp only)) | ((first | (with_reducible (k_here; (with_reducible show wpAny _ _ (call (Value.ref 152) _) _ _ _); refine mark_of ?_)) | (with_reducible (k_here; (with_reducible show wpAny _ _ (call (Value.ref 51) _) _ _ _); refine mark_of ?_)) | (with_reducible (k_here; (with_reducible show wpAny _ _ (call (Value.ref 72) _) _ _ _); refine mark_of ?_)) | (with_reducible (k_here; (with_reducible show wpAny _ _ (call (Value.ref 58) _) _ _ _); refine mark_of ?_)) | (with_reducible (k_here; (with_reducible show wpAny _ _ (call (Value.ref 178) _) _ _ _); refine mark_of ?_)) | (with_reducible (k_here; (with_reducible show wpAny _ _ (execs (Stmt.If (Expr.Compare (Expr.Call _ _ _ _) _ [Expr.Constant _ _ _] _) _ _ _ :: _) _) _ _ _); refine mark_of ?_)) | (with_reducible (k_here; with_reducible refine mul_int ?_ (mulOk_of_bits (by assumption) (by assumption) (by decide)))) | (with_reducible (k_here; (with_reducible show wpAny _ _ (subscriptTail _ _ (Value.ref _) (Value.int (-1) _)) _ _ _); (with_unfolding_all refine' ints_last ?k1 ?k2 ?k3 ?k4 ?_ ?k6; (case k1 => exact News.isList (by k_asm) (by k_mem)); (case k2 => assumption); (case k3 => assumption); (case k4 => assumption); (case k6 => with_unfolding_all rfl); k_whole); intro t9qi)) | (with_reducible (k_here; (with_reducible show wpAny _ _ (subscriptTail _ _ (Value.ref _) (Value.int (-1) _)) _ _ _); (with_unfolding_all refine' ints_last ?k1 ?k2 ?k3 ?k4 ?_ ?k6; (case k1 => exact News.isList (by k_asm) (by k_mem)); (case k2 => assumption); (case k3 => assumption); (case k4 => assumption); (case k6 => with_unfolding_all rfl); k_whole); intro t9qi)) | (with_reducible (k_here; (with_reducible show wpAny _ _ (storeName _ _ _) _ _ _); k_dflt ((first | refine' stI ?F ?N ?_ ?a ?b | refine' stS ?F ?N ?_ ?a ?b | refine' stA ?F ?N ?_ ?a ?b); (case F => k_asm); (case N => k_asm); (case a => exact Eq.refl ScopeKind.function); (case b => exact Eq.refl (some NameKind.local)); k_whole; intro hqi tqi uqi Fqi Nqi; (try k_sweep)))) | (with_reducible (k_here; (with_reducible show wpAny _ _ (eval (Expr.Name _ _) _) _ _ _); k_dflt (refine' nameX_L ?F ?v ?_ ?a ?b ?d; (case F => k_asm); (case a => exact Eq.refl ScopeKind.function); (case b => exact Eq.refl (some NameKind.local)); (case d => exact Eq.refl false); (case v => exact Eq.refl (some _)); k_whole)))); (all_goals (try dsimp only))) | (walk1; (all_goals (try dsimp only))) | (dsimp only; walk1)))
    refine mark_in ?_
    (with_reducible rename News _ _ _ _ => kN; with_reducible rename Fr _ _ _ _ => kF)
    refine hQ _ _ _ c3 c5 k3 k5 f3 f5 u3 u5 kF ?_ (News.sub kN (List.forall_mem_cons.mpr ⟨(.tail _ (.tail _ (.tail _ (.tail _ (.tail _ (.tail _ (.tail _ (.head _)))))))), List.forall_mem_cons.mpr ⟨(.tail _ (.tail _ (.tail _ (.tail _ (.tail _ (.tail _ (.tail _ (.tail _ (.head _))))))))), List.forall_mem_cons.mpr ⟨(.tail _ (.tail _ (.tail _ (.tail _ (.tail _ (.tail _ (.tail _ (.tail _ (.tail _ (.head _)))))))))), List.forall_mem_cons.mpr ⟨(.tail _ (.tail _ (.tail _ (.tail _ (.head _))))), List.forall_mem_cons.mpr ⟨(.tail _ (.tail _ (.head _))), List.forall_mem_cons.mpr ⟨(.tail _ (.tail _ (.tail _ (.tail _ (.tail _ (.tail _ (.tail _ (.tail _ (.tail _ (.tail _ (.head _))))))))))), List.forall_mem_cons.mpr ⟨(.tail _ (.tail _ (.tail _ (.tail _ (.tail _ (.tail _ (.tail _ (.tail _ (.tail _ (.tail _ (.tail _ (.head _)))))))))))), List.forall_mem_cons.mpr ⟨(.tail _ (.tail _ (.tail _ (.tail _ (.tail _ (.tail _ (.tail _ (.tail _ (.tail _ (.tail _ (.tail _ (.tail _ (.head _))))))))))))), List.forall_mem_cons.mpr ⟨(.tail _ (.tail _ (.tail _ (.tail _ (.tail _ (.head _)))))), List.forall_mem_cons.mpr ⟨(.tail _ (.head _)), List.forall_mem_nil _⟩⟩⟩⟩⟩⟩⟩⟩⟩⟩)) w7 w8 r4 r5
    intro z hz
    have e11 : z ≠ Str.ofString "quotient" := fun h => by rw [h] at hz; exact absurd hz (by decide +kernel)
    have e12 : z ≠ Str.ofString "rest" := fun h => by rw [h] at hz; exact absurd hz (by decide +kernel)
    have e13 : z ≠ Str.ofString "number" := fun h => by rw [h] at hz; exact absurd hz (by decide +kernel)
    have e14 : z ≠ Str.ofString "due" := fun h => by rw [h] at hz; exact absurd hz (by decide +kernel)
    ((repeat (first | with_reducible exact rfl | refine upI_ne (by first | with_reducible exact e11 | with_reducible exact e12 | with_reducible exact e13 | with_reducible exact e14) ?_ | refine upS_ne (by first | with_reducible exact e11 | with_reducible exact e12 | with_reducible exact e13 | with_reducible exact e14) ?_ | refine upA_ne (by first | with_reducible exact e11 | with_reducible exact e12 | with_reducible exact e13 | with_reducible exact e14) ?_ | refine ite_ne (by first | with_reducible exact e11 | with_reducible exact e12 | with_reducible exact e13 | with_reducible exact e14) ?_ | refine ite_ctn (by assumption) ?_)); done)
end
section
open PySem PySem.W PyProof.Rows
set_option Elab.async false
set_option maxRecDepth 100000
theorem contains_sub {l l' : List Str} {z : Str} (hs : ∀ y ∈ l, y ∈ l') (h : l'.contains z = false) : l.contains z = false := by
  cases h2 : l.contains z with
  | false => rfl
  | true =>
    have h3 : z ∈ l := by simpa using h2
    have h4 : l'.contains z = true := by simpa using hs z h3
    rw [h] at h4
    cases h4
theorem not_stored {l : List Str} {z n : Str} (hn : l.contains n = true) (h : l.contains z = false) : z ≠ n := fun e => by
  rw [e, hn] at h; cases h
theorem st2_sub {z : Str} (h : st2.contains z = false) : st2b.contains z = false :=
  contains_sub (l := st2b) (l' := st2) (by
    intro y hy
    simp only [st2b, List.mem_cons, List.not_mem_nil, or_false] at hy
    rcases hy with h | h | h | h <;> rw [h] <;> simp [st2]) h
end
section
open PySem PySem.W PyProof.Rows
set_option Elab.async false
set_option maxRecDepth 100000
set_option maxHeartbeats 8000000
local macro_rules | `(tactic| k_mem) => `(tactic| ((repeat (first | with_reducible assumption | with_reducible refine List.mem_cons_of_mem _ ?_)); done))
local macro_rules | `(tactic| is_list) => `(tactic| exact News.isList (by k_asm) (by (repeat (first | assumption | with_reducible refine List.mem_cons_of_mem _ ?_)); done))
local macro_rules | `(tactic| walk_at "subscriptTail Name Slice ref ref") => `(tactic| (k_here; (with_reducible show wpAny _ _ (subscriptTail _ (PySem.Expr.Slice (some _) none none _) (Value.ref _) (Value.ref _)) _ _ _); k_dflt (refine' kmk_slice_lit ?F ?N ?l ?p ?q ?e ?_ ?s ?t ?z; (case F => k_asm); (case N => k_asm); (case l => exact News.isList (by k_asm) (by k_mem)); (case p => kmk_part); (case q => kmk_part); (case e => exact my_from (by omega)); (case s => with_unfolding_all rfl); (case t => kmk_pure); (case z => assumption)); intro D' h' F' N' l1; (try k_lt l1); (try k_sweep)))
local macro_rules | `(tactic| walk_at "CompSrc") => `(tactic| (k_here; refine mark_of ?_))
theorem turn2 {w : World} {loose : List Str} {mean : ExcName → Option Value} {mg mb : Str → Option Value} {base : Heap} {L fa : Addr} {cd : Value} {s : Shared} {P : Flow → Shared → Prop} {E : Value → Shared → Prop} {m₀ u : Str → Option Value} {ld I c1 c2 : Addr} {w1 w2 w3 oI k1 k2 : Obj} {vs : List Value} {e : Nat} {xs : List Str} {f1 f2 : Array Value} {v3 : Option Value} {i : Nat} {t tq1 tq2 u1 u2 tb1 tb2 : Tok} {bl tb spare more : Int} {lead behind : Str}
    (K : Below callerA base [] base) (X : (hd.heap_39 w.params).In base) (T : Top topProg loose mean mg mb base) (hC1 : CodeHd base 57 53) (hC2 : CodeHd base 50 46) (hL1 : @LT.lt Nat _ 53 L) (hL2 : @LT.lt Nat _ 46 L)
    (F : Fr base L s.heap (fun y => if y = Str.ofString "i" then some (.int (i : Int) t) else if st2.contains y then u y else if y = Str.ofString "blanks" then some (.int bl tb1) else if y = Str.ofString "tabs" then some (.int tb tb2) else if y = Str.ofString "spare" then some (.int spare tq1) else if y = Str.ofString "more" then some (.int more tq2) else m₀ y))
    (N : News base L s.heap [(I, oI), (ld, listOf vs.toArray e), (53, tabObj #[rawInt (71 : Nat), rawInt (4 : Nat), .ref c1]), (46, tabObj #[rawInt (56 : Nat), rawInt (4 : Nat), .ref c2]), (L + 1 + 1 + 1, w3), (L + 1 + 1, w2), (L + 1, w1), (c1, k1), (c2, k2)])
    (d3 : w3.data = .cell v3) (d2 : w2.data = .cell (some (.ref ld))) (dk1 : k1.data = .fields f1) (df1 : f1[1]? = some (.str QD u1)) (dk2 : k2.data = .fields f2) (df2 : f2[1]? = some (.str QI u2))
    (hxs : StrsAre vs xs) (hlen : xs.length = 4) (hi : i < 3) (n1 : @Ne Nat ld I) (n2 : @Ne Nat (L + 1 + 1 + 1) I) (n3 : @Ne Nat (L + 1 + 1 + 1) ld) (n4 : @Ne Nat c1 (L + 1 + 1 + 1)) (n5 : @Ne Nat c2 (L + 1 + 1 + 1))
    (hlead : xs.getD (i : Int).toNat (Str.ofString "") = lead) (hbehind : xs.getD ((i : Int) + 1).toNat (Str.ofString "") = behind) (hl1 : (lead.length : Int) = bl + tb) (hl2 : behind.length = lead.length) (hB1 : Blank lead) (hB2 : Blank behind) (hg1 : BegOk lead lead.length) (hg2 : 1 ≤ plF lead lead.length ∧ plF lead lead.length < lead.length)
    (hg3 : (Txt.item lead (plF lead lead.length) ++ Txt.slice lead none (some (plF lead lead.length)) ++ Txt.slice lead (some (plF lead lead.length + 1)) none != behind) = false)
    (hg4 : (bisF (fun i => (crk lead lead.length (plF lead lead.length)).getD i 0) 10 1 ((crk lead lead.length (plF lead lead.length)).length : Nat) != 2 - (crk lead lead.length (plF lead lead.length)).getD ((crk lead lead.length (plF lead lead.length)).length - 1) 0) = false)

    (hbl : 1 ≤ bl ∧ bl ≤ 3) (htb : 1 ≤ tb ∧ tb ≤ 3)
    (hn1 : (@Ne Nat I 53) ∧ (@Ne Nat ld 53) ∧ (@Ne Nat c1 53) ∧ (@Ne Nat c2 53)) (hn2 : (@Ne Nat I 46) ∧ (@Ne Nat ld 46) ∧ (@Ne Nat c1 46) ∧ (@Ne Nat c2 46))
    (hg5 : IDM (numF lead) (2 ^ (plF lead lead.length).toNat)) (hg6 : strip (bitsF behind) ≠ []) (hg7 : I2D (nextF lead (plF lead lead.length)) 1) (hg8 : digs (2 ^ (1 : Int).toNat) (nextF lead (plF lead lead.length)) (ndig (nextF lead (plF lead lead.length)) 1) = strip (bitsF behind))
    (hg9 : Builtin.Int.intBits (numF lead) ≤ 100)
    (hPass : PassesOwn (model PySem.Challenge.rw_tv0051_01.row.prog w) (callerA.deeper (envOfC (Str.ofString "law") lawScope L fa cd)) (envOfC (Str.ofString "law") lawScope L fa cd) E)
    (hQ : ∀ (h' : Heap) (tk' : Nat) (m' : Str → Option Value) (D2 cA cB : Addr) (zs : List Value) (w3' kA kB : Obj) (fA fB : Array Value) (uA uB tl tp tb' : Tok), Fr base L h' m' → m' (Str.ofString "place") = some (.int (plF lead lead.length) tp) → m' (Str.ofString "behind") = some (.str behind tb') → m' (Str.ofString "crooked") = some (.ref D2) →
      (∀ z, z ≠ Str.ofString "i" → st2.contains z = false → m' z = if z = Str.ofString "blanks" then some (.int bl tb1) else if z = Str.ofString "tabs" then some (.int tb tb2) else if z = Str.ofString "spare" then some (.int spare tq1) else if z = Str.ofString "more" then some (.int more tq2) else m₀ z) →
      w3'.data = .cell (some (.str lead tl)) → IntsAre zs (crk lead lead.length (plF lead lead.length)) → News base L h' [(D2, LCg.lst zs), (I, oI), (ld, listOf vs.toArray e), (53, tabObj #[rawInt (71 : Nat), rawInt (4 : Nat), .ref cA]), (46, tabObj #[rawInt (56 : Nat), rawInt (4 : Nat), .ref cB]), (L + 1 + 1 + 1, w3'), (L + 1 + 1, w2), (L + 1, w1), (cA, kA), (cB, kB)] → kA.data = .fields fA → fA[1]? = some (.str QD uA) → kB.data = .fields fB → fB[1]? = some (.str QI uB) →
      wpAny (model PySem.Challenge.rw_tv0051_01.row.prog w) (callerA.deeper (envOfC (Str.ofString "law") lawScope L fa cd)) (execs ((forBody 15).drop 12) (envOfC (Str.ofString "law") lawScope L fa cd)) P E { s with heap := h', toks := tk' }) :
    wpAny (model PySem.Challenge.rw_tv0051_01.row.prog w) (callerA.deeper (envOfC (Str.ofString "law") lawScope L fa cd)) (execs (forBody 15) (envOfC (Str.ofString "law") lawScope L fa cd)) P E s := by
  conv in forBody 15 => whnf
  conv in (occs := *) lawScope => all_goals whnf
  revert X
  k_fill
  intro X
  (repeat' (first | (k_unfold; (try dsimp only)) | ((first | (with_reducible (k_here; (with_reducible show wpAny _ _ (call (Value.ref 134) _) _ _ _); refine mark_of ?_)) | (with_reducible (k_here; (with_reducible show wpAny _ _ (call (Value.ref 183) _) _ _ _); refine mark_of ?_)) | (with_reducible (k_here; (with_reducible show wpAny _ _ (call (Value.ref 152) _) _ _ _); refine mark_of ?_)) | (with_reducible (k_here; (with_reducible show wpAny _ _ (call (Value.ref 51) _) _ _ _); refine mark_of ?_)) | (with_reducible (k_here; (with_reducible show wpAny _ _ (call (Value.ref 72) _) _ _ _); refine mark_of ?_)) | (with_reducible (k_here; (with_reducible show wpAny _ _ (call (Value.ref 58) _) _ _ _); refine mark_of ?_)) | (with_reducible (k_here; (with_reducible show wpAny _ _ (call (Value.ref 178) _) _ _ _); refine mark_of ?_)) | (with_reducible (k_here; (with_reducible show wpAny _ _ (call (Value.ref 173) _) _ _ _); refine mark_of ?_)) | (with_reducible (k_here; (with_reducible show wpAny _ _ (call (Value.ref 30) _ _) _ _ _); refine mark_of ?_)) | (with_reducible (k_here; (with_reducible show wpAny _ _ (execs (Stmt.Assign [Expr.Tuple _ _ _] _ _ :: _) _) _ _ _); refine mark_of ?_)) | (with_reducible (k_here; (with_reducible show wpAny _ _ (subscriptTail _ _ (Value.ref _) (Value.int (-1) _)) _ _ _); (with_unfolding_all refine' ints_last ?k1 ?k2 ?k3 ?k4 ?_ ?k6; (case k1 => exact News.isList (by k_asm) (by k_mem)); (case k2 => assumption); (case k3 => assumption); (case k4 => assumption); (case k6 => with_unfolding_all rfl); k_whole); intro t9qi)) | (with_reducible (k_here; (with_reducible show wpAny _ _ (subscriptTail _ _ (Value.ref _) (Value.int (-1) _)) _ _ _); (with_unfolding_all refine' ints_last ?k1 ?k2 ?k3 ?k4 ?_ ?k6; (case k1 => exact News.isList (by k_asm) (by k_mem)); (case k2 => assumption); (case k3 => assumption); (case k4 => assumption); (case k6 => with_unfolding_all rfl); k_whole); intro t9qi)) | (with_reducible (k_here; (with_reducible show wpAny _ _ (subscriptTail (Expr.Name _ _) (Expr.Slice _ _ none _) (Value.str _ _) _) _ _ _); (with_reducible rename Fr _ _ _ _ => F'); (with_reducible rename News _ _ _ _ => N'); (first | (refine slice_strN_sn (hsz := ?hsz) (s := ⟨_, _, _, _, _⟩) F' N' ?_) | (refine slice_strN_ns (hsz := ?hsz) (s := ⟨_, _, _, _, _⟩) F' N' ?_)); (case hsz => rw [sizeLine_eq]; omega); intro _ _ _ _ _; (try k_sweep); (try dsimp only))) | (with_reducible (k_here; (with_reducible show wpAny _ _ (subscriptTail _ _ (Value.ref _) (Value.int _ _)) _ _ _); (with_unfolding_all refine' strs_item_eq ?k1 ?k2 ?k3 ?k4 ?k5 ?kE ?_ ?k6; (case k1 => exact News.isList (by k_asm) (by k_mem)); (case k2 => assumption); (case k3 => omega); (case k4 => omega); (case k5 => omega); (case kE => assumption); (case k6 => with_unfolding_all rfl); k_whole); intro t9qi)) | (with_reducible (k_here; (with_reducible show wpAny _ _ (subscriptTail _ _ (Value.ref _) (Value.int _ _)) _ _ _); (with_unfolding_all refine' strs_item_eq ?k1 ?k2 ?k3 ?k4 ?k5 ?kE ?_ ?k6; (case k1 => exact News.isList (by k_asm) (by k_mem)); (case k2 => assumption); (case k3 => omega); (case k4 => omega); (case k5 => omega); (case kE => assumption); (case k6 => with_unfolding_all rfl); k_whole); intro t9qi)) | (with_reducible (k_here; (with_reducible show wpAny _ _ (storeName _ _ _) _ _ _); k_dflt ((first | refine' stI ?F ?N ?_ ?a ?b | refine' stS ?F ?N ?_ ?a ?b | refine' stA ?F ?N ?_ ?a ?b); (case F => k_asm); (case N => k_asm); (case a => exact Eq.refl ScopeKind.function); (case b => exact Eq.refl (some NameKind.local)); k_whole; intro hqi tqi uqi Fqi Nqi; (try k_sweep)))) | (with_reducible (k_here; (with_reducible show wpAny _ _ (eval (Expr.Name _ _) _) _ _ _); k_dflt (refine' nameX_L ?F ?v ?_ ?a ?b ?d; (case F => k_asm); (case a => exact Eq.refl ScopeKind.function); (case b => exact Eq.refl (some NameKind.local)); (case d => exact Eq.refl false); (case v => exact Eq.refl (some _)); k_whole)))); (all_goals (try dsimp only))) | (walk1; (all_goals (try dsimp only))) | (dsimp only; walk1)))
  refine mark_in ?_
  (with_reducible rename News _ _ _ _ => kN; with_reducible rename Fr _ _ _ _ => kF)
  rename IsRange _ _ _ _ _ _ _ _ => kR
  obtain ⟨nn, hnn⟩ : ∃ nn : Nat, bl + tb = nn := ⟨(bl + tb).toNat, by omega⟩
  have hls : lead.length = nn := by omega
  rw [hls] at hg1 hg2 hg3 hg4 hg5 hg7 hg8
  obtain ⟨hg2a, hg2b⟩ := hg2
  have hk6 : lead.length ≤ 6 := by omega
  have hk7 : behind.length ≤ 6 := by omega
  have hn6 : nn ≤ 6 := by omega
  k_dflt (refine' LCg.CompSrc.range (n := nn + 1) rfl kF kN kR (rng_small (n := nn + 1) (b := bl + tb + 1) (by omega) (by omega)) (rng_size (b := bl + tb + 1) (by omega)) (by rw [sizeLine_eq]; omega) (fun g => kcs_any (fun k y => ∃ t, y = .str (preS lead k) t) ?turn ?fin))
  case turn =>
    clear kN kF kR
    rintro j v I9 oI9 C9 oC9 D9 m9 ys9 h9 tk9 E9 hj ⟨tj, rfl⟩ hNs hx9 F9 N9 off9 ne9
    rw [Int.zero_add] at hx9
    (repeat' (first | (k_unfold; (try dsimp only)) | ((first | (with_reducible (k_here; (with_reducible show wpAny _ _ (call (Value.ref 134) _) _ _ _); refine mark_of ?_)) | (with_reducible (k_here; (with_reducible show wpAny _ _ (call (Value.ref 183) _) _ _ _); refine mark_of ?_)) | (with_reducible (k_here; (with_reducible show wpAny _ _ (call (Value.ref 152) _) _ _ _); refine mark_of ?_)) | (with_reducible (k_here; (with_reducible show wpAny _ _ (call (Value.ref 51) _) _ _ _); refine mark_of ?_)) | (with_reducible (k_here; (with_reducible show wpAny _ _ (call (Value.ref 72) _) _ _ _); refine mark_of ?_)) | (with_reducible (k_here; (with_reducible show wpAny _ _ (call (Value.ref 58) _) _ _ _); refine mark_of ?_)) | (with_reducible (k_here; (with_reducible show wpAny _ _ (call (Value.ref 178) _) _ _ _); refine mark_of ?_)) | (with_reducible (k_here; (with_reducible show wpAny _ _ (call (Value.ref 173) _) _ _ _); refine mark_of ?_)) | (with_reducible (k_here; (with_reducible show wpAny _ _ (call (Value.ref 30) _ _) _ _ _); refine mark_of ?_)) | (with_reducible (k_here; (with_reducible show wpAny _ _ (execs (Stmt.Assign [Expr.Tuple _ _ _] _ _ :: _) _) _ _ _); refine mark_of ?_)) | (with_reducible (k_here; (with_reducible show wpAny _ _ (subscriptTail _ _ (Value.ref _) (Value.int (-1) _)) _ _ _); (with_unfolding_all refine' ints_last ?k1 ?k2 ?k3 ?k4 ?_ ?k6; (case k1 => exact News.isList (by k_asm) (by k_mem)); (case k2 => assumption); (case k3 => assumption); (case k4 => assumption); (case k6 => with_unfolding_all rfl); k_whole); intro t9qi)) | (with_reducible (k_here; (with_reducible show wpAny _ _ (subscriptTail _ _ (Value.ref _) (Value.int (-1) _)) _ _ _); (with_unfolding_all refine' ints_last ?k1 ?k2 ?k3 ?k4 ?_ ?k6; (case k1 => exact News.isList (by k_asm) (by k_mem)); (case k2 => assumption); (case k3 => assumption); (case k4 => assumption); (case k6 => with_unfolding_all rfl); k_whole); intro t9qi)) | (with_reducible (k_here; (with_reducible show wpAny _ _ (subscriptTail (Expr.Name _ _) (Expr.Slice _ _ none _) (Value.str _ _) _) _ _ _); (with_reducible rename Fr _ _ _ _ => F'); (with_reducible rename News _ _ _ _ => N'); (first | (refine slice_strN_sn (hsz := ?hsz) (s := ⟨_, _, _, _, _⟩) F' N' ?_) | (refine slice_strN_ns (hsz := ?hsz) (s := ⟨_, _, _, _, _⟩) F' N' ?_)); (case hsz => rw [sizeLine_eq]; omega); intro _ _ _ _ _; (try k_sweep); (try dsimp only))) | (with_reducible (k_here; (with_reducible show wpAny _ _ (subscriptTail _ _ (Value.ref _) (Value.int _ _)) _ _ _); (with_unfolding_all refine' strs_item_eq ?k1 ?k2 ?k3 ?k4 ?k5 ?kE ?_ ?k6; (case k1 => exact News.isList (by k_asm) (by k_mem)); (case k2 => assumption); (case k3 => omega); (case k4 => omega); (case k5 => omega); (case kE => assumption); (case k6 => with_unfolding_all rfl); k_whole); intro t9qi)) | (with_reducible (k_here; (with_reducible show wpAny _ _ (subscriptTail _ _ (Value.ref _) (Value.int _ _)) _ _ _); (with_unfolding_all refine' strs_item_eq ?k1 ?k2 ?k3 ?k4 ?k5 ?kE ?_ ?k6; (case k1 => exact News.isList (by k_asm) (by k_mem)); (case k2 => assumption); (case k3 => omega); (case k4 => omega); (case k5 => omega); (case kE => assumption); (case k6 => with_unfolding_all rfl); k_whole); intro t9qi)) | (with_reducible (k_here; (with_reducible show wpAny _ _ (storeName _ _ _) _ _ _); k_dflt ((first | refine' stI ?F ?N ?_ ?a ?b | refine' stS ?F ?N ?_ ?a ?b | refine' stA ?F ?N ?_ ?a ?b); (case F => k_asm); (case N => k_asm); (case a => exact Eq.refl ScopeKind.function); (case b => exact Eq.refl (some NameKind.local)); k_whole; intro hqi tqi uqi Fqi Nqi; (try k_sweep)))) | (with_reducible (k_here; (with_reducible show wpAny _ _ (eval (Expr.Name _ _) _) _ _ _); k_dflt (refine' nameX_L ?F ?v ?_ ?a ?b ?d; (case F => k_asm); (case a => exact Eq.refl ScopeKind.function); (case b => exact Eq.refl (some NameKind.local)); (case d => exact Eq.refl false); (case v => exact Eq.refl (some _)); k_whole)))); (all_goals (try dsimp only))) | (walk1; (all_goals (try dsimp only))) | (dsimp only; walk1)))
    exact LCg.CompEnd.intro (by k_asm) (by k_asm) _ (fun p hp => hp) off9 trivial ⟨rfl, _, rfl⟩
  case fin =>
    clear kN kF kR
    intro ys hys D h9 tk9 F9 N9 off9
    have hys2 : StrsAre ys (begs lead nn) := hys.strs (fun _ _ h => h)
    clear hys
    (repeat' (first | (k_unfold; (try dsimp only)) | ((first | (with_reducible (k_here; (with_reducible show wpAny _ _ (call (Value.ref 134) _) _ _ _); refine mark_of ?_)) | (with_reducible (k_here; (with_reducible show wpAny _ _ (call (Value.ref 183) _) _ _ _); refine mark_of ?_)) | (with_reducible (k_here; (with_reducible show wpAny _ _ (call (Value.ref 152) _) _ _ _); refine mark_of ?_)) | (with_reducible (k_here; (with_reducible show wpAny _ _ (call (Value.ref 51) _) _ _ _); refine mark_of ?_)) | (with_reducible (k_here; (with_reducible show wpAny _ _ (call (Value.ref 72) _) _ _ _); refine mark_of ?_)) | (with_reducible (k_here; (with_reducible show wpAny _ _ (call (Value.ref 58) _) _ _ _); refine mark_of ?_)) | (with_reducible (k_here; (with_reducible show wpAny _ _ (call (Value.ref 178) _) _ _ _); refine mark_of ?_)) | (with_reducible (k_here; (with_reducible show wpAny _ _ (call (Value.ref 173) _) _ _ _); refine mark_of ?_)) | (with_reducible (k_here; (with_reducible show wpAny _ _ (call (Value.ref 30) _ _) _ _ _); refine mark_of ?_)) | (with_reducible (k_here; (with_reducible show wpAny _ _ (execs (Stmt.Assign [Expr.Tuple _ _ _] _ _ :: _) _) _ _ _); refine mark_of ?_)) | (with_reducible (k_here; (with_reducible show wpAny _ _ (subscriptTail _ _ (Value.ref _) (Value.int (-1) _)) _ _ _); (with_unfolding_all refine' ints_last ?k1 ?k2 ?k3 ?k4 ?_ ?k6; (case k1 => exact News.isList (by k_asm) (by k_mem)); (case k2 => assumption); (case k3 => assumption); (case k4 => assumption); (case k6 => with_unfolding_all rfl); k_whole); intro t9qi)) | (with_reducible (k_here; (with_reducible show wpAny _ _ (subscriptTail _ _ (Value.ref _) (Value.int (-1) _)) _ _ _); (with_unfolding_all refine' ints_last ?k1 ?k2 ?k3 ?k4 ?_ ?k6; (case k1 => exact News.isList (by k_asm) (by k_mem)); (case k2 => assumption); (case k3 => assumption); (case k4 => assumption); (case k6 => with_unfolding_all rfl); k_whole); intro t9qi)) | (with_reducible (k_here; (with_reducible show wpAny _ _ (subscriptTail (Expr.Name _ _) (Expr.Slice _ _ none _) (Value.str _ _) _) _ _ _); (with_reducible rename Fr _ _ _ _ => F'); (with_reducible rename News _ _ _ _ => N'); (first | (refine slice_strN_sn (hsz := ?hsz) (s := ⟨_, _, _, _, _⟩) F' N' ?_) | (refine slice_strN_ns (hsz := ?hsz) (s := ⟨_, _, _, _, _⟩) F' N' ?_)); (case hsz => rw [sizeLine_eq]; omega); intro _ _ _ _ _; (try k_sweep); (try dsimp only))) | (with_reducible (k_here; (with_reducible show wpAny _ _ (subscriptTail _ _ (Value.ref _) (Value.int _ _)) _ _ _); (with_unfolding_all refine' strs_item_eq ?k1 ?k2 ?k3 ?k4 ?k5 ?kE ?_ ?k6; (case k1 => exact News.isList (by k_asm) (by k_mem)); (case k2 => assumption); (case k3 => omega); (case k4 => omega); (case k5 => omega); (case kE => assumption); (case k6 => with_unfolding_all rfl); k_whole); intro t9qi)) | (with_reducible (k_here; (with_reducible show wpAny _ _ (subscriptTail _ _ (Value.ref _) (Value.int _ _)) _ _ _); (with_unfolding_all refine' strs_item_eq ?k1 ?k2 ?k3 ?k4 ?k5 ?kE ?_ ?k6; (case k1 => exact News.isList (by k_asm) (by k_mem)); (case k2 => assumption); (case k3 => omega); (case k4 => omega); (case k5 => omega); (case kE => assumption); (case k6 => with_unfolding_all rfl); k_whole); intro t9qi)) | (with_reducible (k_here; (with_reducible show wpAny _ _ (storeName _ _ _) _ _ _); k_dflt ((first | refine' stI ?F ?N ?_ ?a ?b | refine' stS ?F ?N ?_ ?a ?b | refine' stA ?F ?N ?_ ?a ?b); (case F => k_asm); (case N => k_asm); (case a => exact Eq.refl ScopeKind.function); (case b => exact Eq.refl (some NameKind.local)); k_whole; intro hqi tqi uqi Fqi Nqi; (try k_sweep)))) | (with_reducible (k_here; (with_reducible show wpAny _ _ (eval (Expr.Name _ _) _) _ _ _); k_dflt (refine' nameX_L ?F ?v ?_ ?a ?b ?d; (case F => k_asm); (case a => exact Eq.refl ScopeKind.function); (case b => exact Eq.refl (some NameKind.local)); (case d => exact Eq.refl false); (case v => exact Eq.refl (some _)); k_whole)))); (all_goals (try dsimp only))) | (walk1; (all_goals (try dsimp only))) | (dsimp only; walk1)))
    refine mark_in ?_
    k_dflt (refine' (bisl_c D ys (begs lead nn) ys.length (bl + tb - 1) _ _ _).use ?k1 ?k2 ?k3 ?k4 ?k5 ?kK ?kp ?kd ?ku ?_; (case k1 => k_asm); (case k2 => k_asm); (case k3 => k_asm); (case k4 => k_asm); (case k5 => k_asm); (case kK => first | exact rfl | assumption))
    case kp => exact ⟨.head _, hys2, hg1, by omega, by rw [begs_len]; omega, by rw [begs_len]; omega⟩
    case kd => exact Nat.le_of_ble_eq_true rfl
    case ku => exact Nat.le_of_ble_eq_true rfl
    intro t9 h9 tk9 _ F9 N9
    try dsimp only
    have hpl : bisF (fun i => keyF ((begs lead nn).getD i (Str.ofString ""))) 10 1 (bl + tb - 1) = plF lead nn := by rw [hnn]; rfl
    rw [hpl]
    obtain ⟨p, hp⟩ : ∃ p : Int, p = plF lead nn := ⟨_, rfl⟩
    rw [← hp] at hg2a hg2b hg3 hg4 hg5 hg7 hg8 ⊢
    rw [hls, ← hp] at hQ
    have hk8 : p ≤ 6 := by omega
    have hsz9 : ys.toArray.size ≤ PySem.sizeLine := small_size3 hys2 (by rw [begs_len]; omega)
    have hys3 : StrsAre (ys.drop p.toNat) ((begs lead nn).drop p.toNat) := hys2.drop' _
    (repeat' (first | (k_unfold; (try dsimp only)) | ((first | (with_reducible (k_here; (with_reducible show wpAny _ _ (call (Value.ref 134) _) _ _ _); refine mark_of ?_)) | (with_reducible (k_here; (with_reducible show wpAny _ _ (call (Value.ref 183) _) _ _ _); refine mark_of ?_)) | (with_reducible (k_here; (with_reducible show wpAny _ _ (call (Value.ref 152) _) _ _ _); refine mark_of ?_)) | (with_reducible (k_here; (with_reducible show wpAny _ _ (call (Value.ref 51) _) _ _ _); refine mark_of ?_)) | (with_reducible (k_here; (with_reducible show wpAny _ _ (call (Value.ref 72) _) _ _ _); refine mark_of ?_)) | (with_reducible (k_here; (with_reducible show wpAny _ _ (call (Value.ref 58) _) _ _ _); refine mark_of ?_)) | (with_reducible (k_here; (with_reducible show wpAny _ _ (call (Value.ref 178) _) _ _ _); refine mark_of ?_)) | (with_reducible (k_here; (with_reducible show wpAny _ _ (call (Value.ref 173) _) _ _ _); refine mark_of ?_)) | (with_reducible (k_here; (with_reducible show wpAny _ _ (call (Value.ref 30) _ _) _ _ _); refine mark_of ?_)) | (with_reducible (k_here; (with_reducible show wpAny _ _ (execs (Stmt.Assign [Expr.Tuple _ _ _] _ _ :: _) _) _ _ _); refine mark_of ?_)) | (with_reducible (k_here; (with_reducible show wpAny _ _ (subscriptTail _ _ (Value.ref _) (Value.int (-1) _)) _ _ _); (with_unfolding_all refine' ints_last ?k1 ?k2 ?k3 ?k4 ?_ ?k6; (case k1 => exact News.isList (by k_asm) (by k_mem)); (case k2 => assumption); (case k3 => assumption); (case k4 => assumption); (case k6 => with_unfolding_all rfl); k_whole); intro t9qi)) | (with_reducible (k_here; (with_reducible show wpAny _ _ (subscriptTail _ _ (Value.ref _) (Value.int (-1) _)) _ _ _); (with_unfolding_all refine' ints_last ?k1 ?k2 ?k3 ?k4 ?_ ?k6; (case k1 => exact News.isList (by k_asm) (by k_mem)); (case k2 => assumption); (case k3 => assumption); (case k4 => assumption); (case k6 => with_unfolding_all rfl); k_whole); intro t9qi)) | (with_reducible (k_here; (with_reducible show wpAny _ _ (subscriptTail (Expr.Name _ _) (Expr.Slice _ _ none _) (Value.str _ _) _) _ _ _); (with_reducible rename Fr _ _ _ _ => F'); (with_reducible rename News _ _ _ _ => N'); (first | (refine slice_strN_sn (hsz := ?hsz) (s := ⟨_, _, _, _, _⟩) F' N' ?_) | (refine slice_strN_ns (hsz := ?hsz) (s := ⟨_, _, _, _, _⟩) F' N' ?_)); (case hsz => rw [sizeLine_eq]; omega); intro _ _ _ _ _; (try k_sweep); (try dsimp only))) | (with_reducible (k_here; (with_reducible show wpAny _ _ (subscriptTail _ _ (Value.ref _) (Value.int _ _)) _ _ _); (with_unfolding_all refine' strs_item_eq ?k1 ?k2 ?k3 ?k4 ?k5 ?kE ?_ ?k6; (case k1 => exact News.isList (by k_asm) (by k_mem)); (case k2 => assumption); (case k3 => omega); (case k4 => omega); (case k5 => omega); (case kE => assumption); (case k6 => with_unfolding_all rfl); k_whole); intro t9qi)) | (with_reducible (k_here; (with_reducible show wpAny _ _ (subscriptTail _ _ (Value.ref _) (Value.int _ _)) _ _ _); (with_unfolding_all refine' strs_item_eq ?k1 ?k2 ?k3 ?k4 ?k5 ?kE ?_ ?k6; (case k1 => exact News.isList (by k_asm) (by k_mem)); (case k2 => assumption); (case k3 => omega); (case k4 => omega); (case k5 => omega); (case kE => assumption); (case k6 => with_unfolding_all rfl); k_whole); intro t9qi)) | (with_reducible (k_here; (with_reducible show wpAny _ _ (storeName _ _ _) _ _ _); k_dflt ((first | refine' stI ?F ?N ?_ ?a ?b | refine' stS ?F ?N ?_ ?a ?b | refine' stA ?F ?N ?_ ?a ?b); (case F => k_asm); (case N => k_asm); (case a => exact Eq.refl ScopeKind.function); (case b => exact Eq.refl (some NameKind.local)); k_whole; intro hqi tqi uqi Fqi Nqi; (try k_sweep)))) | (with_reducible (k_here; (with_reducible show wpAny _ _ (eval (Expr.Name _ _) _) _ _ _); k_dflt (refine' nameX_L ?F ?v ?_ ?a ?b ?d; (case F => k_asm); (case a => exact Eq.refl ScopeKind.function); (case b => exact Eq.refl (some NameKind.local)); (case d => exact Eq.refl false); (case v => exact Eq.refl (some _)); k_whole)))); (all_goals (try dsimp only))) | (walk1; (all_goals (try dsimp only))) | (dsimp only; walk1)))
    refine mark_in ?_
    (with_reducible rename News _ _ _ _ => kN; with_reducible rename Fr _ _ _ _ => kF)
    have hsz8 : (ys.drop p.toNat).length = nn + 1 - p.toNat := by rw [hys3.length, List.length_drop, begs_len]
    k_dflt (refine' LCg.CompSrc.ledger rfl kF kN (.head _) (by rw [List.size_toArray, hsz8, sizeLine_eq]; clear hl1 hl2 hbl htb hnn hls hk6 hk7; omega) (fun g => kcs_any (fun k y => ∃ t, y = .int (keyF (((begs lead nn).drop p.toNat).getD k (Str.ofString ""))) t) ?turn2 ?fin2))
    case turn2 =>
      clear kN kF
      rintro j v I9 oI9 C9 oC9 D9 m9 ys9 h9 tk9 E9 hj hv hNs hx9 F9 N9 off9 ne9
      obtain ⟨bx, tx, rfl, hbx⟩ := hys3.item j v (by simpa using hv)
      have hbx2 : ((begs lead nn).drop p.toNat).getD j (Str.ofString "") = bx := by rw [List.getD_eq_getElem?_getD, hbx]; rfl
      obtain ⟨hk1, hk2⟩ := hg1 bx (List.mem_of_mem_drop (List.mem_of_getElem? hbx))
      rw [hbx2]
      (repeat' (first | (k_unfold; (try dsimp only)) | ((first | (with_reducible (k_here; (with_reducible show wpAny _ _ (call (Value.ref 134) _) _ _ _); refine mark_of ?_)) | (with_reducible (k_here; (with_reducible show wpAny _ _ (call (Value.ref 183) _) _ _ _); refine mark_of ?_)) | (with_reducible (k_here; (with_reducible show wpAny _ _ (call (Value.ref 152) _) _ _ _); refine mark_of ?_)) | (with_reducible (k_here; (with_reducible show wpAny _ _ (call (Value.ref 51) _) _ _ _); refine mark_of ?_)) | (with_reducible (k_here; (with_reducible show wpAny _ _ (call (Value.ref 72) _) _ _ _); refine mark_of ?_)) | (with_reducible (k_here; (with_reducible show wpAny _ _ (call (Value.ref 58) _) _ _ _); refine mark_of ?_)) | (with_reducible (k_here; (with_reducible show wpAny _ _ (call (Value.ref 178) _) _ _ _); refine mark_of ?_)) | (with_reducible (k_here; (with_reducible show wpAny _ _ (call (Value.ref 173) _) _ _ _); refine mark_of ?_)) | (with_reducible (k_here; (with_reducible show wpAny _ _ (call (Value.ref 30) _ _) _ _ _); refine mark_of ?_)) | (with_reducible (k_here; (with_reducible show wpAny _ _ (execs (Stmt.Assign [Expr.Tuple _ _ _] _ _ :: _) _) _ _ _); refine mark_of ?_)) | (with_reducible (k_here; (with_reducible show wpAny _ _ (subscriptTail _ _ (Value.ref _) (Value.int (-1) _)) _ _ _); (with_unfolding_all refine' ints_last ?k1 ?k2 ?k3 ?k4 ?_ ?k6; (case k1 => exact News.isList (by k_asm) (by k_mem)); (case k2 => assumption); (case k3 => assumption); (case k4 => assumption); (case k6 => with_unfolding_all rfl); k_whole); intro t9qi)) | (with_reducible (k_here; (with_reducible show wpAny _ _ (subscriptTail _ _ (Value.ref _) (Value.int (-1) _)) _ _ _); (with_unfolding_all refine' ints_last ?k1 ?k2 ?k3 ?k4 ?_ ?k6; (case k1 => exact News.isList (by k_asm) (by k_mem)); (case k2 => assumption); (case k3 => assumption); (case k4 => assumption); (case k6 => with_unfolding_all rfl); k_whole); intro t9qi)) | (with_reducible (k_here; (with_reducible show wpAny _ _ (subscriptTail (Expr.Name _ _) (Expr.Slice _ _ none _) (Value.str _ _) _) _ _ _); (with_reducible rename Fr _ _ _ _ => F'); (with_reducible rename News _ _ _ _ => N'); (first | (refine slice_strN_sn (hsz := ?hsz) (s := ⟨_, _, _, _, _⟩) F' N' ?_) | (refine slice_strN_ns (hsz := ?hsz) (s := ⟨_, _, _, _, _⟩) F' N' ?_)); (case hsz => rw [sizeLine_eq]; omega); intro _ _ _ _ _; (try k_sweep); (try dsimp only))) | (with_reducible (k_here; (with_reducible show wpAny _ _ (subscriptTail _ _ (Value.ref _) (Value.int _ _)) _ _ _); (with_unfolding_all refine' strs_item_eq ?k1 ?k2 ?k3 ?k4 ?k5 ?kE ?_ ?k6; (case k1 => exact News.isList (by k_asm) (by k_mem)); (case k2 => assumption); (case k3 => omega); (case k4 => omega); (case k5 => omega); (case kE => assumption); (case k6 => with_unfolding_all rfl); k_whole); intro t9qi)) | (with_reducible (k_here; (with_reducible show wpAny _ _ (subscriptTail _ _ (Value.ref _) (Value.int _ _)) _ _ _); (with_unfolding_all refine' strs_item_eq ?k1 ?k2 ?k3 ?k4 ?k5 ?kE ?_ ?k6; (case k1 => exact News.isList (by k_asm) (by k_mem)); (case k2 => assumption); (case k3 => omega); (case k4 => omega); (case k5 => omega); (case kE => assumption); (case k6 => with_unfolding_all rfl); k_whole); intro t9qi)) | (with_reducible (k_here; (with_reducible show wpAny _ _ (storeName _ _ _) _ _ _); k_dflt ((first | refine' stI ?F ?N ?_ ?a ?b | refine' stS ?F ?N ?_ ?a ?b | refine' stA ?F ?N ?_ ?a ?b); (case F => k_asm); (case N => k_asm); (case a => exact Eq.refl ScopeKind.function); (case b => exact Eq.refl (some NameKind.local)); k_whole; intro hqi tqi uqi Fqi Nqi; (try k_sweep)))) | (with_reducible (k_here; (with_reducible show wpAny _ _ (eval (Expr.Name _ _) _) _ _ _); k_dflt (refine' nameX_L ?F ?v ?_ ?a ?b ?d; (case F => k_asm); (case a => exact Eq.refl ScopeKind.function); (case b => exact Eq.refl (some NameKind.local)); (case d => exact Eq.refl false); (case v => exact Eq.refl (some _)); k_whole)))); (all_goals (try dsimp only))) | (walk1; (all_goals (try dsimp only))) | (dsimp only; walk1)))
      refine mark_in ?_
      k_dflt (refine' (key_c bx tx).use ?k1 ?k2 ?k3 ?k4 ?k5 ?kK ?kp ?kd ?ku ?_; (case k1 => k_asm); (case k2 => k_asm); (case k3 => k_asm); (case k4 => k_asm); (case k5 => k_asm); (case kK => first | exact rfl | assumption))
      case kp => exact ⟨hk1, hk2⟩
      case kd => exact Nat.le_of_ble_eq_true rfl
      case ku => exact Nat.le_of_ble_eq_true rfl
      intro t10 h10 tk10 _ F10 N10
      try dsimp only
      (repeat' (first | (k_unfold; (try dsimp only)) | ((first | (with_reducible (k_here; (with_reducible show wpAny _ _ (call (Value.ref 134) _) _ _ _); refine mark_of ?_)) | (with_reducible (k_here; (with_reducible show wpAny _ _ (call (Value.ref 183) _) _ _ _); refine mark_of ?_)) | (with_reducible (k_here; (with_reducible show wpAny _ _ (call (Value.ref 152) _) _ _ _); refine mark_of ?_)) | (with_reducible (k_here; (with_reducible show wpAny _ _ (call (Value.ref 51) _) _ _ _); refine mark_of ?_)) | (with_reducible (k_here; (with_reducible show wpAny _ _ (call (Value.ref 72) _) _ _ _); refine mark_of ?_)) | (with_reducible (k_here; (with_reducible show wpAny _ _ (call (Value.ref 58) _) _ _ _); refine mark_of ?_)) | (with_reducible (k_here; (with_reducible show wpAny _ _ (call (Value.ref 178) _) _ _ _); refine mark_of ?_)) | (with_reducible (k_here; (with_reducible show wpAny _ _ (call (Value.ref 173) _) _ _ _); refine mark_of ?_)) | (with_reducible (k_here; (with_reducible show wpAny _ _ (call (Value.ref 30) _ _) _ _ _); refine mark_of ?_)) | (with_reducible (k_here; (with_reducible show wpAny _ _ (execs (Stmt.Assign [Expr.Tuple _ _ _] _ _ :: _) _) _ _ _); refine mark_of ?_)) | (with_reducible (k_here; (with_reducible show wpAny _ _ (subscriptTail _ _ (Value.ref _) (Value.int (-1) _)) _ _ _); (with_unfolding_all refine' ints_last ?k1 ?k2 ?k3 ?k4 ?_ ?k6; (case k1 => exact News.isList (by k_asm) (by k_mem)); (case k2 => assumption); (case k3 => assumption); (case k4 => assumption); (case k6 => with_unfolding_all rfl); k_whole); intro t9qi)) | (with_reducible (k_here; (with_reducible show wpAny _ _ (subscriptTail _ _ (Value.ref _) (Value.int (-1) _)) _ _ _); (with_unfolding_all refine' ints_last ?k1 ?k2 ?k3 ?k4 ?_ ?k6; (case k1 => exact News.isList (by k_asm) (by k_mem)); (case k2 => assumption); (case k3 => assumption); (case k4 => assumption); (case k6 => with_unfolding_all rfl); k_whole); intro t9qi)) | (with_reducible (k_here; (with_reducible show wpAny _ _ (subscriptTail (Expr.Name _ _) (Expr.Slice _ _ none _) (Value.str _ _) _) _ _ _); (with_reducible rename Fr _ _ _ _ => F'); (with_reducible rename News _ _ _ _ => N'); (first | (refine slice_strN_sn (hsz := ?hsz) (s := ⟨_, _, _, _, _⟩) F' N' ?_) | (refine slice_strN_ns (hsz := ?hsz) (s := ⟨_, _, _, _, _⟩) F' N' ?_)); (case hsz => rw [sizeLine_eq]; omega); intro _ _ _ _ _; (try k_sweep); (try dsimp only))) | (with_reducible (k_here; (with_reducible show wpAny _ _ (subscriptTail _ _ (Value.ref _) (Value.int _ _)) _ _ _); (with_unfolding_all refine' strs_item_eq ?k1 ?k2 ?k3 ?k4 ?k5 ?kE ?_ ?k6; (case k1 => exact News.isList (by k_asm) (by k_mem)); (case k2 => assumption); (case k3 => omega); (case k4 => omega); (case k5 => omega); (case kE => assumption); (case k6 => with_unfolding_all rfl); k_whole); intro t9qi)) | (with_reducible (k_here; (with_reducible show wpAny _ _ (subscriptTail _ _ (Value.ref _) (Value.int _ _)) _ _ _); (with_unfolding_all refine' strs_item_eq ?k1 ?k2 ?k3 ?k4 ?k5 ?kE ?_ ?k6; (case k1 => exact News.isList (by k_asm) (by k_mem)); (case k2 => assumption); (case k3 => omega); (case k4 => omega); (case k5 => omega); (case kE => assumption); (case k6 => with_unfolding_all rfl); k_whole); intro t9qi)) | (with_reducible (k_here; (with_reducible show wpAny _ _ (storeName _ _ _) _ _ _); k_dflt ((first | refine' stI ?F ?N ?_ ?a ?b | refine' stS ?F ?N ?_ ?a ?b | refine' stA ?F ?N ?_ ?a ?b); (case F => k_asm); (case N => k_asm); (case a => exact Eq.refl ScopeKind.function); (case b => exact Eq.refl (some NameKind.local)); k_whole; intro hqi tqi uqi Fqi Nqi; (try k_sweep)))) | (with_reducible (k_here; (with_reducible show wpAny _ _ (eval (Expr.Name _ _) _) _ _ _); k_dflt (refine' nameX_L ?F ?v ?_ ?a ?b ?d; (case F => k_asm); (case a => exact Eq.refl ScopeKind.function); (case b => exact Eq.refl (some NameKind.local)); (case d => exact Eq.refl false); (case v => exact Eq.refl (some _)); k_whole)))); (all_goals (try dsimp only))) | (walk1; (all_goals (try dsimp only))) | (dsimp only; walk1)))
      exact LCg.CompEnd.intro (by k_asm) (by k_asm) _ (fun p hp => hp) off9 (.inr ⟨_, .head _, rfl, _, rfl⟩) ⟨rfl, _, rfl⟩
    case fin2 =>
      clear kN kF
      intro zs hzs D2 h9 tk9 F9 N9 off9
      have hcr : IntsAre zs (crk lead nn p) := by
        have h := hzs.ints (g := fun k => keyF (((begs lead nn).drop p.toNat).getD k (Str.ofString ""))) (fun _ _ h => h)
        rw [List.size_toArray, hys3.length, map_range_getD] at h
        exact h
      clear hzs
      have hcl := crk_len lead nn p
      have hcl1 : 1 ≤ (crk lead nn p).length := by clear hl1 hl2 hbl htb hnn hls hk6 hk7; omega
      have hcl2 : (crk lead nn p).length ≤ 10 := by clear hl1 hl2 hbl htb hnn hls hk6 hk7; omega
      have hcl3 : (crk lead nn p).length ≤ 1000 := Nat.le_trans hcl2 (by decide)
      (repeat' (first | (k_unfold; (try dsimp only)) | ((first | (with_reducible (k_here; (with_reducible show wpAny _ _ (call (Value.ref 134) _) _ _ _); refine mark_of ?_)) | (with_reducible (k_here; (with_reducible show wpAny _ _ (call (Value.ref 183) _) _ _ _); refine mark_of ?_)) | (with_reducible (k_here; (with_reducible show wpAny _ _ (call (Value.ref 152) _) _ _ _); refine mark_of ?_)) | (with_reducible (k_here; (with_reducible show wpAny _ _ (call (Value.ref 51) _) _ _ _); refine mark_of ?_)) | (with_reducible (k_here; (with_reducible show wpAny _ _ (call (Value.ref 72) _) _ _ _); refine mark_of ?_)) | (with_reducible (k_here; (with_reducible show wpAny _ _ (call (Value.ref 58) _) _ _ _); refine mark_of ?_)) | (with_reducible (k_here; (with_reducible show wpAny _ _ (call (Value.ref 178) _) _ _ _); refine mark_of ?_)) | (with_reducible (k_here; (with_reducible show wpAny _ _ (call (Value.ref 173) _) _ _ _); refine mark_of ?_)) | (with_reducible (k_here; (with_reducible show wpAny _ _ (call (Value.ref 30) _ _) _ _ _); refine mark_of ?_)) | (with_reducible (k_here; (with_reducible show wpAny _ _ (execs (Stmt.Assign [Expr.Tuple _ _ _] _ _ :: _) _) _ _ _); refine mark_of ?_)) | (with_reducible (k_here; (with_reducible show wpAny _ _ (subscriptTail _ _ (Value.ref _) (Value.int (-1) _)) _ _ _); (with_unfolding_all refine' ints_last ?k1 ?k2 ?k3 ?k4 ?_ ?k6; (case k1 => exact News.isList (by k_asm) (by k_mem)); (case k2 => assumption); (case k3 => assumption); (case k4 => assumption); (case k6 => with_unfolding_all rfl); k_whole); intro t9qi)) | (with_reducible (k_here; (with_reducible show wpAny _ _ (subscriptTail _ _ (Value.ref _) (Value.int (-1) _)) _ _ _); (with_unfolding_all refine' ints_last ?k1 ?k2 ?k3 ?k4 ?_ ?k6; (case k1 => exact News.isList (by k_asm) (by k_mem)); (case k2 => assumption); (case k3 => assumption); (case k4 => assumption); (case k6 => with_unfolding_all rfl); k_whole); intro t9qi)) | (with_reducible (k_here; (with_reducible show wpAny _ _ (subscriptTail (Expr.Name _ _) (Expr.Slice _ _ none _) (Value.str _ _) _) _ _ _); (with_reducible rename Fr _ _ _ _ => F'); (with_reducible rename News _ _ _ _ => N'); (first | (refine slice_strN_sn (hsz := ?hsz) (s := ⟨_, _, _, _, _⟩) F' N' ?_) | (refine slice_strN_ns (hsz := ?hsz) (s := ⟨_, _, _, _, _⟩) F' N' ?_)); (case hsz => rw [sizeLine_eq]; omega); intro _ _ _ _ _; (try k_sweep); (try dsimp only))) | (with_reducible (k_here; (with_reducible show wpAny _ _ (subscriptTail _ _ (Value.ref _) (Value.int _ _)) _ _ _); (with_unfolding_all refine' strs_item_eq ?k1 ?k2 ?k3 ?k4 ?k5 ?kE ?_ ?k6; (case k1 => exact News.isList (by k_asm) (by k_mem)); (case k2 => assumption); (case k3 => omega); (case k4 => omega); (case k5 => omega); (case kE => assumption); (case k6 => with_unfolding_all rfl); k_whole); intro t9qi)) | (with_reducible (k_here; (with_reducible show wpAny _ _ (subscriptTail _ _ (Value.ref _) (Value.int _ _)) _ _ _); (with_unfolding_all refine' strs_item_eq ?k1 ?k2 ?k3 ?k4 ?k5 ?kE ?_ ?k6; (case k1 => exact News.isList (by k_asm) (by k_mem)); (case k2 => assumption); (case k3 => omega); (case k4 => omega); (case k5 => omega); (case kE => assumption); (case k6 => with_unfolding_all rfl); k_whole); intro t9qi)) | (with_reducible (k_here; (with_reducible show wpAny _ _ (storeName _ _ _) _ _ _); k_dflt ((first | refine' stI ?F ?N ?_ ?a ?b | refine' stS ?F ?N ?_ ?a ?b | refine' stA ?F ?N ?_ ?a ?b); (case F => k_asm); (case N => k_asm); (case a => exact Eq.refl ScopeKind.function); (case b => exact Eq.refl (some NameKind.local)); k_whole; intro hqi tqi uqi Fqi Nqi; (try k_sweep)))) | (with_reducible (k_here; (with_reducible show wpAny _ _ (eval (Expr.Name _ _) _) _ _ _); k_dflt (refine' nameX_L ?F ?v ?_ ?a ?b ?d; (case F => k_asm); (case a => exact Eq.refl ScopeKind.function); (case b => exact Eq.refl (some NameKind.local)); (case d => exact Eq.refl false); (case v => exact Eq.refl (some _)); k_whole)))); (all_goals (try dsimp only))) | (walk1; (all_goals (try dsimp only))) | (dsimp only; walk1)))
      refine mark_in ?_
      k_dflt (refine' (bisi_c D2 zs (crk lead nn p) zs.length _ _).use ?k1 ?k2 ?k3 ?k4 ?k5 ?kK ?kp ?kd ?ku ?_; (case k1 => k_asm); (case k2 => k_asm); (case k3 => k_asm); (case k4 => k_asm); (case k5 => k_asm); (case kK => first | exact rfl | assumption))
      case kp => exact ⟨.head _, hcr, hcl1, hcl2⟩
      case kd => exact Nat.le_of_ble_eq_true rfl
      case ku => exact Nat.le_of_ble_eq_true rfl
      intro t11 h11 tk11 _ F11 N11
      try dsimp only
      (repeat' (first | (k_unfold; (try dsimp only)) | ((first | (with_reducible (k_here; (with_reducible show wpAny _ _ (call (Value.ref 134) _) _ _ _); refine mark_of ?_)) | (with_reducible (k_here; (with_reducible show wpAny _ _ (call (Value.ref 183) _) _ _ _); refine mark_of ?_)) | (with_reducible (k_here; (with_reducible show wpAny _ _ (call (Value.ref 152) _) _ _ _); refine mark_of ?_)) | (with_reducible (k_here; (with_reducible show wpAny _ _ (call (Value.ref 51) _) _ _ _); refine mark_of ?_)) | (with_reducible (k_here; (with_reducible show wpAny _ _ (call (Value.ref 72) _) _ _ _); refine mark_of ?_)) | (with_reducible (k_here; (with_reducible show wpAny _ _ (call (Value.ref 58) _) _ _ _); refine mark_of ?_)) | (with_reducible (k_here; (with_reducible show wpAny _ _ (call (Value.ref 178) _) _ _ _); refine mark_of ?_)) | (with_reducible (k_here; (with_reducible show wpAny _ _ (call (Value.ref 173) _) _ _ _); refine mark_of ?_)) | (with_reducible (k_here; (with_reducible show wpAny _ _ (call (Value.ref 30) _ _) _ _ _); refine mark_of ?_)) | (with_reducible (k_here; (with_reducible show wpAny _ _ (execs (Stmt.Assign [Expr.Tuple _ _ _] _ _ :: _) _) _ _ _); refine mark_of ?_)) | (with_reducible (k_here; (with_reducible show wpAny _ _ (subscriptTail _ _ (Value.ref _) (Value.int (-1) _)) _ _ _); (with_unfolding_all refine' ints_last ?k1 ?k2 ?k3 ?k4 ?_ ?k6; (case k1 => exact News.isList (by k_asm) (by k_mem)); (case k2 => assumption); (case k3 => assumption); (case k4 => assumption); (case k6 => with_unfolding_all rfl); k_whole); intro t9qi)) | (with_reducible (k_here; (with_reducible show wpAny _ _ (subscriptTail _ _ (Value.ref _) (Value.int (-1) _)) _ _ _); (with_unfolding_all refine' ints_last ?k1 ?k2 ?k3 ?k4 ?_ ?k6; (case k1 => exact News.isList (by k_asm) (by k_mem)); (case k2 => assumption); (case k3 => assumption); (case k4 => assumption); (case k6 => with_unfolding_all rfl); k_whole); intro t9qi)) | (with_reducible (k_here; (with_reducible show wpAny _ _ (subscriptTail (Expr.Name _ _) (Expr.Slice _ _ none _) (Value.str _ _) _) _ _ _); (with_reducible rename Fr _ _ _ _ => F'); (with_reducible rename News _ _ _ _ => N'); (first | (refine slice_strN_sn (hsz := ?hsz) (s := ⟨_, _, _, _, _⟩) F' N' ?_) | (refine slice_strN_ns (hsz := ?hsz) (s := ⟨_, _, _, _, _⟩) F' N' ?_)); (case hsz => rw [sizeLine_eq]; omega); intro _ _ _ _ _; (try k_sweep); (try dsimp only))) | (with_reducible (k_here; (with_reducible show wpAny _ _ (subscriptTail _ _ (Value.ref _) (Value.int _ _)) _ _ _); (with_unfolding_all refine' strs_item_eq ?k1 ?k2 ?k3 ?k4 ?k5 ?kE ?_ ?k6; (case k1 => exact News.isList (by k_asm) (by k_mem)); (case k2 => assumption); (case k3 => omega); (case k4 => omega); (case k5 => omega); (case kE => assumption); (case k6 => with_unfolding_all rfl); k_whole); intro t9qi)) | (with_reducible (k_here; (with_reducible show wpAny _ _ (subscriptTail _ _ (Value.ref _) (Value.int _ _)) _ _ _); (with_unfolding_all refine' strs_item_eq ?k1 ?k2 ?k3 ?k4 ?k5 ?kE ?_ ?k6; (case k1 => exact News.isList (by k_asm) (by k_mem)); (case k2 => assumption); (case k3 => omega); (case k4 => omega); (case k5 => omega); (case kE => assumption); (case k6 => with_unfolding_all rfl); k_whole); intro t9qi)) | (with_reducible (k_here; (with_reducible show wpAny _ _ (storeName _ _ _) _ _ _); k_dflt ((first | refine' stI ?F ?N ?_ ?a ?b | refine' stS ?F ?N ?_ ?a ?b | refine' stA ?F ?N ?_ ?a ?b); (case F => k_asm); (case N => k_asm); (case a => exact Eq.refl ScopeKind.function); (case b => exact Eq.refl (some NameKind.local)); k_whole; intro hqi tqi uqi Fqi Nqi; (try k_sweep)))) | (with_reducible (k_here; (with_reducible show wpAny _ _ (eval (Expr.Name _ _) _) _ _ _); k_dflt (refine' nameX_L ?F ?v ?_ ?a ?b ?d; (case F => k_asm); (case a => exact Eq.refl ScopeKind.function); (case b => exact Eq.refl (some NameKind.local)); (case d => exact Eq.refl false); (case v => exact Eq.refl (some _)); k_whole)))); (all_goals (try dsimp only))) | (walk1; (all_goals (try dsimp only))) | (dsimp only; walk1)))
      refine mark_in ?_
      (with_reducible rename News _ _ _ _ => kN; with_reducible rename Fr _ _ _ _ => kF)
      simp only [LCg.Off1] at off9
      refine turn2b K X T hC1 hC2 hL1 hL2 (Fr.as2 kF rfl rfl) (News.sub kN (List.forall_mem_cons.mpr ⟨(.head _), List.forall_mem_cons.mpr ⟨(.tail _ (.tail _ (.tail _ (.head _)))), List.forall_mem_cons.mpr ⟨(.tail _ (.tail _ (.tail _ (.tail _ (.head _))))), List.forall_mem_cons.mpr ⟨(.tail _ (.tail _ (.tail _ (.tail _ (.tail _ (.head _)))))), List.forall_mem_cons.mpr ⟨(.tail _ (.tail _ (.tail _ (.tail _ (.tail _ (.tail _ (.head _))))))), List.forall_mem_cons.mpr ⟨(.tail _ (.tail _ (.tail _ (.tail _ (.tail _ (.tail _ (.tail _ (.head _)))))))), List.forall_mem_cons.mpr ⟨(.tail _ (.tail _ (.tail _ (.tail _ (.tail _ (.tail _ (.tail _ (.tail _ (.head _))))))))), List.forall_mem_cons.mpr ⟨(.tail _ (.tail _ (.tail _ (.tail _ (.tail _ (.tail _ (.tail _ (.tail _ (.tail _ (.head _)))))))))), List.forall_mem_cons.mpr ⟨(.tail _ (.tail _ (.tail _ (.tail _ (.tail _ (.tail _ (.tail _ (.tail _ (.tail _ (.tail _ (.head _))))))))))), List.forall_mem_cons.mpr ⟨(.tail _ (.tail _ (.tail _ (.tail _ (.tail _ (.tail _ (.tail _ (.tail _ (.tail _ (.tail _ (.tail _ (.head _)))))))))))), List.forall_mem_nil _⟩⟩⟩⟩⟩⟩⟩⟩⟩⟩)) (by assumption) dk1 df1 dk2 df2 ⟨off9.2.2.2.2.1.symm, hn1⟩ ⟨off9.2.2.2.2.2.1.symm, hn2⟩ hk6 hk7 hB1 hB2 hg2a hk8 hg5 hg6 hg7 hg8 hg9 hPass ?_
      intro h' tk' m' cA cB kA kB fA fB uA uB F' hm' N' q1 q2 q3 q4
      obtain ⟨ty1, g1⟩ : ∃ tq, m' (Str.ofString "place") = some (.int p tq) := by
        refine ⟨?_, ?_⟩
        rotate_left
        · rw [hm' _ (by decide +kernel)]; rfl
      obtain ⟨ty2, g2⟩ : ∃ tq, m' (Str.ofString "behind") = some (.str behind tq) := by
        refine ⟨?_, ?_⟩
        rotate_left
        · rw [hm' _ (by decide +kernel)]; rfl
      refine hQ h' tk' m' D2 cA cB zs _ kA kB fA fB uA uB _ _ _ F' g1 g2 ?g3 ?g4 (by assumption) hcr N' q1 q2 q3 q4
      case g3 => rw [hm' _ (by decide +kernel)]; rfl
      case g4 =>
        intro z hz1 hz2
        rw [hm' z (st2_sub hz2)]
        have e1 : z ≠ Str.ofString "place" := not_stored (by decide +kernel) hz2
        have e2 : z ≠ Str.ofString "behind" := not_stored (by decide +kernel) hz2
        have e3 : z ≠ Str.ofString "crooked" := not_stored (by decide +kernel) hz2
        have e4 : z ≠ Str.ofString "beginnings" := not_stored (by decide +kernel) hz2
        ((repeat (first | with_reducible exact rfl | refine upI_ne (by first | exact e1 | exact e2 | exact e3 | exact e4 | exact hz1) ?_ | refine upS_ne (by first | exact e1 | exact e2 | exact e3 | exact e4 | exact hz1) ?_ | refine upA_ne (by first | exact e1 | exact e2 | exact e3 | exact e4 | exact hz1) ?_ | refine ite_ne (by first | exact e1 | exact e2 | exact e3 | exact e4 | exact hz1) ?_ | refine ite_ctn (by assumption) ?_)); done)
end
section
open PySem PySem.W PyProof.Rows
set_option Elab.async false
set_option maxRecDepth 100000
set_option maxHeartbeats 8000000
local macro_rules | `(tactic| walk_at "idle") => `(tactic| fail)

noncomputable def preF (a b : Str) : Nat → Int → Int
  | 0, p => p
  | n + 1, p => if (p < a.length ∧ p < b.length) ∧ (Txt.item a p == Txt.item b p) = true then preF a b n (p + 1) else p
noncomputable def upto (a : Str) (p : Int) : Str := Txt.slice a none (if p = 0 then none else some p)
noncomputable def postF (a b : Str) : Nat → Int → Int
  | 0, p => p
  | n + 1, p => if ((upto a p).length ≠ 0 ∧ (upto b p).length ≠ 0) ∧ (Txt.item a (p - 1) == Txt.item b (p - 1)) = true then postF a b n (p - 1) else p
theorem idx_nn (n : Nat) : (PySem.Builtin.Str.strSliceIndices none none 1 n).length = n := by
  unfold PySem.Builtin.Str.strSliceIndices sliceRange
  simp
  split <;> omega
theorem slice_nn (x : Str) : Txt.slice x none none = x := by
  unfold Txt.slice
  rw [if_pos]
  simp [idx_nn]
noncomputable def PreP (a b : Str) (p : Int) : Prop := ∃ n : Nat, preF a b n p = preF a b 10 0 ∧ a.length - p < n
noncomputable def PostP (a b : Str) (p : Int) : Prop := ∃ n : Nat, postF a b n p = postF a b 10 0 ∧ a.length + p < n
theorem PostP.start {a b : Str} (h : a.length ≤ 8) : PostP a b 0 := ⟨10, rfl, by omega⟩
theorem PostP.step {a b : Str} {p : Int} (h : PostP a b p) (hp : 0 ≤ a.length + p) (h1 : (upto a p).length ≠ 0) (h2 : (upto b p).length ≠ 0) (h3 : (Txt.item a (p - 1) == Txt.item b (p - 1)) = true) : PostP a b (p - 1) := by
  obtain ⟨n, e, hn⟩ := h
  cases n with
  | zero => omega
  | succ n => exact ⟨n, by rw [← e, postF, if_pos ⟨⟨h1, h2⟩, h3⟩], by omega⟩
theorem PostP.done {a b : Str} {p : Int} (h : PostP a b p) (hp : 0 ≤ a.length + p) (h1 : ¬ (((upto a p).length ≠ 0 ∧ (upto b p).length ≠ 0) ∧ (Txt.item a (p - 1) == Txt.item b (p - 1)) = true)) : p = postF a b 10 0 := by
  obtain ⟨n, e, hn⟩ := h
  rw [← e]
  cases n with
  | zero => omega
  | succ n => rw [postF, if_neg h1]
noncomputable def levPre (a b : Str) : Int := preF a b 10 0
noncomputable def levPost (a b : Str) : Int := postF (Txt.slice a (some (levPre a b)) none) (Txt.slice b (some (levPre a b)) none) 10 0
noncomputable def levA (a b : Str) : Str := upto (Txt.slice a (some (levPre a b)) none) (levPost a b)
noncomputable def levB (a b : Str) : Str := upto (Txt.slice b (some (levPre a b)) none) (levPost a b)
noncomputable def levF (a b : Str) : Int := (levOut (levA a b) (levB a b) (0, rangeInts 2 2 (levA a b).length) (levB a b).length).1
theorem news_swap {h₀ h : Heap} {L : Addr} {x y : Addr × Obj} {r : List (Addr × Obj)} (N : News h₀ L h (x :: y :: r)) : News h₀ L h (y :: x :: r) := fun p hp => N p (by
  rcases List.mem_cons.mp hp with rfl | hp
  · exact .tail _ (.head _)
  rcases List.mem_cons.mp hp with rfl | hp
  · exact .head _
  · exact .tail _ (.tail _ hp))
theorem upto_neg {a : Str} {p : Int} (h : p < 0) : upto a p = Txt.slice a none (some p) := by unfold upto; rw [if_neg (by omega)]
theorem upto_zero {a : Str} {p : Int} (h : p = 0) : upto a p = a := by unfold upto; rw [if_pos h, slice_nn]
theorem slice_sn_len (a : Str) {p : Int} {n : Nat} (h0 : 0 ≤ p) (h1 : p ≤ n) (e : a.length = n) : ((Txt.slice a (some p) none).length : Int) = n - p := by
  subst e
  rcases slice_sn_cases' a p with h | h | h <;> omega
theorem slice_ns_len (a : Str) {p : Int} {n : Nat} (h0 : p < 0) (h1 : -p ≤ n) (e : a.length = n) : ((Txt.slice a none (some p)).length : Int) = n + p := by
  subst e
  rcases slice_ns_cases' a p with h | h | h <;> omega
theorem upto_len (a : Str) {p : Int} {n : Nat} (h0 : p ≤ 0) (h1 : -p ≤ n) (e : a.length = n) : ((upto a p).length : Int) = n + p := by
  rcases Int.lt_or_eq_of_le h0 with h | h
  · rw [upto_neg h]; exact slice_ns_len a h h1 e
  · rw [upto_zero h]; omega
theorem PreP.start {a b : Str} (h : a.length ≤ 8) : PreP a b 0 := ⟨10, rfl, by omega⟩
theorem PreP.step {a b : Str} {p : Int} (h : PreP a b p) (h1 : p < a.length) (h2 : p < b.length) (h3 : (Txt.item a p == Txt.item b p) = true) : PreP a b (p + 1) := by
  obtain ⟨n, e, hn⟩ := h
  cases n with
  | zero => omega
  | succ n => exact ⟨n, by rw [← e, preF, if_pos ⟨⟨h1, h2⟩, h3⟩], by omega⟩
theorem PreP.done {a b : Str} {p : Int} (h : PreP a b p) (h1 : ¬ ((p < a.length ∧ p < b.length) ∧ (Txt.item a p == Txt.item b p) = true)) (hp : p ≤ a.length) : p = preF a b 10 0 := by
  obtain ⟨n, e, hn⟩ := h
  rw [← e]
  cases n with
  | zero => omega
  | succ n => rw [preF, if_neg h1]
local macro_rules | `(tactic| walk_at "exec While BoolOp cons nil") => `(tactic| (k_here; refine mark_of ?_))
local macro_rules | `(tactic| walk_at "pyIter ref") => `(tactic| (k_here; refine mark_of ?_))
noncomputable def Hid (p : Prop) : Prop := p
structure LevX (a b : Str) (k X : Int) : Prop where
  e : levF a b = X
  m : ∀ j, j < (levB a b).length → levMin (levA a b) (levB a b) (0, rangeInts 2 2 (levA a b).length) j ≤ k ∨ k + 1 = X
theorem txpost_ret {σ : Type} {h₀ : Heap} {L : Addr} {x : Str} {Led : σ → List (Addr × Obj)} {ps : σ → List (Str × Value)} {stored : List Str} {m₀ : Str → Option Value} {P : σ → Prop} {I : Addr} {oI : Obj} {Q : Flow → Shared → Prop} {s₁ s₂ : Shared} {v : Value} (h : Q (.ret v) s₂) :
    TxPost h₀ L x Led ps stored m₀ P I oI Q s₁ (.ret v) s₂ := h
theorem lev_c {w : World} {loose : List Str} {mean : ExcName → Option Value} {mg mb : Str → Option Value} (a b : Str) (k X : Int) (t1 t2 t3 : Tok) :
    ConS w loose mean mg mb 152 860 7500 (fun news => a.length ≤ 8 ∧ b.length = a.length ∧ 3 ≤ k ∧ k ≤ 5 ∧ (a == b) = false ∧ 1 ≤ (levA a b).length ∧ LevX a b k X) [.str a t1, .str b t2, .int k t3] [] (fun tk => .int X tk) True := by
  refine ConS.intro ?_
  k_fill
  intros
  rename_i hp hret
  (try dsimp only at hret)
  (try dsimp only at hp)
  obtain ⟨p1, p2, p3, p4, p5, p6, pX⟩ := hp
  refine wpAny_call ?_
  k_dflt cell_enter
  k_with_none
  w_strict (repeat' (first | (k_unfold; (try dsimp only)) | (with_reducible (k_here; (with_reducible show wpAny _ _ (call (Value.ref 145) [Value.str _ _, Value.str _ _]) _ _ _); k_dflt ( refine' (sub_c _ _ _ _).use ?k1 ?k2 ?k3 ?k4 ?k5 ?kK ?kp ?kd ?ku ?_; (case k1 => k_asm); (case k2 => k_asm); (case k3 => k_asm); (case k4 => k_asm); (case k5 => k_asm); (case kK => first | exact rfl | assumption); (case kp => ((try dsimp only); omega)); (case kd => exact Nat.le_of_ble_eq_true rfl); (case ku => exact Nat.le_of_ble_eq_true rfl); intro t9qi h9qi tk9qi g9qi F9qi N9qi; (obtain ⟨c1qi, c2qi⟩ := g9qi); (try dsimp only); (try k_fold)))) | (with_reducible (k_here; (with_reducible show wpAny _ _ (call (Value.type _) [Value.ref _]) _ _ _); (rename IsRange _ _ _ _ _ _ _ _ => rgX); (with_unfolding_all refine' my_list_range ?k0 ?k1 ?k2 ?k3 ?k4 ?k5 ?k6 ?_; (case k0 => rfl); (case k1 => k_asm); (case k2 => k_asm); (case k3 => exact rgX); (case k4 => exact small_step2 _ (by assumption)); (case k5 => exact size_step2 _ (by assumption)); (case k6 => omega); k_whole); intro Dqi vsqi cqi hqi tkqi Fqi Nqi l1qi hIqi; (try k_lt l1qi); (try k_sweep))) | (with_reducible (k_here; (with_reducible show wpAny _ _ (subscriptTail (Expr.Name _ _) (Expr.Slice _ _ none _) (Value.str _ _) _) _ _ _); (with_reducible rename Fr _ _ _ _ => F'); (with_reducible rename News _ _ _ _ => N'); (first | (refine slice_strN_sn (hsz := ?hsz) (s := ⟨_, _, _, _, _⟩) F' N' ?_) | (refine slice_strN_ns (hsz := ?hsz) (s := ⟨_, _, _, _, _⟩) F' N' ?_) | (refine slice_strN_nn (hsz := ?hsz) (s := ⟨_, _, _, _, _⟩) F' N' ?_)); (case hsz => rw [sizeLine_eq]; omega); intro _ _ _ _ _; (try rw [slice_nn]); (try k_sweep); (try dsimp only))) | (with_reducible (k_here; (with_reducible show wpAny _ _ (storeName _ _ _) _ _ _); k_dflt ((first | refine' stI ?F ?N ?_ ?a ?b | refine' stS ?F ?N ?_ ?a ?b | refine' stA ?F ?N ?_ ?a ?b); (case F => k_asm); (case N => k_asm); (case a => exact Eq.refl ScopeKind.function); (case b => exact Eq.refl (some NameKind.local)); k_whole; intro hqi tqi uqi Fqi Nqi; (try k_sweep)))) | (with_reducible (k_here; (with_reducible show wpAny _ _ (eval (Expr.Name _ _) _) _ _ _); k_dflt (refine' nameX_L ?F ?v ?_ ?a ?b ?d; (case F => k_asm); (case a => exact Eq.refl ScopeKind.function); (case b => exact Eq.refl (some NameKind.local)); (case d => exact Eq.refl false); (case v => exact Eq.refl (some _)); k_whole))) | (k_end; wrow_close) | walk1 | (dsimp only; walk1) | (leave1; walk_say "STEP leave1"; try dsimp only)))
  refine mark_in ?_
  with_reducible rename News _ _ _ _ => kN
  with_reducible rename Fr _ _ _ _ => kF
  refine my_while1 (Str.ofString "pre") (fun p => 0 ≤ p ∧ p ≤ a.length ∧ PreP a b p) (fun p => 0 ≤ p ∧ p ≤ a.length ∧ p = preF a b 10 0) (fun p => (a.length - p).toNat) kF kN rfl ⟨by omega, by omega, PreP.start p1⟩ ?turn ?done
  case turn =>
    rintro pre tp h tk ⟨q1, q2, q3⟩ F N
    have f1 : ((Txt.slice a (some pre) none).length : Int) = a.length - pre := slice_sn_len a q1 q2 rfl
    have f2 : ((Txt.slice b (some pre) none).length : Int) = a.length - pre := slice_sn_len b q1 q2 p2
    w_strict (repeat' (first | (k_unfold; (try dsimp only)) | (with_reducible (k_here; (with_reducible show wpAny _ _ (call (Value.ref 145) [Value.str _ _, Value.str _ _]) _ _ _); k_dflt ( refine' (sub_c _ _ _ _).use ?k1 ?k2 ?k3 ?k4 ?k5 ?kK ?kp ?kd ?ku ?_; (case k1 => k_asm); (case k2 => k_asm); (case k3 => k_asm); (case k4 => k_asm); (case k5 => k_asm); (case kK => first | exact rfl | assumption); (case kp => ((try dsimp only); omega)); (case kd => exact Nat.le_of_ble_eq_true rfl); (case ku => exact Nat.le_of_ble_eq_true rfl); intro t9qi h9qi tk9qi g9qi F9qi N9qi; (obtain ⟨c1qi, c2qi⟩ := g9qi); (try dsimp only); (try k_fold)))) | (with_reducible (k_here; (with_reducible show wpAny _ _ (call (Value.type _) [Value.ref _]) _ _ _); (rename IsRange _ _ _ _ _ _ _ _ => rgX); (with_unfolding_all refine' my_list_range ?k0 ?k1 ?k2 ?k3 ?k4 ?k5 ?k6 ?_; (case k0 => rfl); (case k1 => k_asm); (case k2 => k_asm); (case k3 => exact rgX); (case k4 => exact small_step2 _ (by assumption)); (case k5 => exact size_step2 _ (by assumption)); (case k6 => omega); k_whole); intro Dqi vsqi cqi hqi tkqi Fqi Nqi l1qi hIqi; (try k_lt l1qi); (try k_sweep))) | (with_reducible (k_here; (with_reducible show wpAny _ _ (subscriptTail (Expr.Name _ _) (Expr.Slice _ _ none _) (Value.str _ _) _) _ _ _); (with_reducible rename Fr _ _ _ _ => F'); (with_reducible rename News _ _ _ _ => N'); (first | (refine slice_strN_sn (hsz := ?hsz) (s := ⟨_, _, _, _, _⟩) F' N' ?_) | (refine slice_strN_ns (hsz := ?hsz) (s := ⟨_, _, _, _, _⟩) F' N' ?_) | (refine slice_strN_nn (hsz := ?hsz) (s := ⟨_, _, _, _, _⟩) F' N' ?_)); (case hsz => rw [sizeLine_eq]; omega); intro _ _ _ _ _; (try rw [slice_nn]); (try k_sweep); (try dsimp only))) | (with_reducible (k_here; (with_reducible show wpAny _ _ (storeName _ _ _) _ _ _); k_dflt ((first | refine' stI ?F ?N ?_ ?a ?b | refine' stS ?F ?N ?_ ?a ?b | refine' stA ?F ?N ?_ ?a ?b); (case F => k_asm); (case N => k_asm); (case a => exact Eq.refl ScopeKind.function); (case b => exact Eq.refl (some NameKind.local)); k_whole; intro hqi tqi uqi Fqi Nqi; (try k_sweep)))) | (with_reducible (k_here; (with_reducible show wpAny _ _ (eval (Expr.Name _ _) _) _ _ _); k_dflt (refine' nameX_L ?F ?v ?_ ?a ?b ?d; (case F => k_asm); (case a => exact Eq.refl ScopeKind.function); (case b => exact Eq.refl (some NameKind.local)); (case d => exact Eq.refl false); (case v => exact Eq.refl (some _)); k_whole))) | (k_end; wrow_close) | walk1 | (dsimp only; walk1) | (leave1; walk_say "STEP leave1"; try dsimp only)))
    · (dsimp only [W1Post]; (with_reducible rename News _ _ _ _ => kN9); (with_reducible rename Fr _ _ _ _ => kF9); (refine' W1End.mk' kF9 kN9 ?wy ?wr ?wd); (case wy => with_unfolding_all rfl); (case wr => intro z hz; ((repeat (first | with_reducible exact rfl | refine upI_ne (by first | with_reducible exact hz) ?_ | refine upS_ne (by first | with_reducible exact hz) ?_ | refine upA_ne (by first | with_reducible exact hz) ?_ | refine ite_ne (by first | with_reducible exact hz) ?_ | refine ite_ctn (by assumption) ?_)); done)); (case wd => refine ⟨⟨by omega, by omega, q3.step (by omega) (by omega) (by assumption)⟩, by omega⟩))
    · ((with_reducible rename News _ _ _ _ => kN9); (with_reducible rename Fr _ _ _ _ => kF9); (refine' W1End.mk' kF9 kN9 ?wy ?wr ?wd); (case wy => with_unfolding_all rfl); (case wr => intro z hz; ((repeat (first | with_reducible exact rfl | refine upI_ne (by first | with_reducible exact hz) ?_ | refine upS_ne (by first | with_reducible exact hz) ?_ | refine upA_ne (by first | with_reducible exact hz) ?_ | refine ite_ne (by first | with_reducible exact hz) ?_ | refine ite_ctn (by assumption) ?_)); done)); (case wd => exact ⟨by omega, by omega, q3.done (fun hc => by have h9 := hc.2; simp_all) q2⟩))
    · ((with_reducible rename News _ _ _ _ => kN9); (with_reducible rename Fr _ _ _ _ => kF9); (refine' W1End.mk' kF9 kN9 ?wy ?wr ?wd); (case wy => with_unfolding_all rfl); (case wr => intro z hz; ((repeat (first | with_reducible exact rfl | refine upI_ne (by first | with_reducible exact hz) ?_ | refine upS_ne (by first | with_reducible exact hz) ?_ | refine upA_ne (by first | with_reducible exact hz) ?_ | refine ite_ne (by first | with_reducible exact hz) ?_ | refine ite_ctn (by assumption) ?_)); done)); (case wd => exact ⟨by omega, by omega, q3.done (fun hc => by have h9 := hc.1; omega) q2⟩))
    · ((with_reducible rename News _ _ _ _ => kN9); (with_reducible rename Fr _ _ _ _ => kF9); (refine' W1End.mk' kF9 kN9 ?wy ?wr ?wd); (case wy => with_unfolding_all rfl); (case wr => intro z hz; ((repeat (first | with_reducible exact rfl | refine upI_ne (by first | with_reducible exact hz) ?_ | refine upS_ne (by first | with_reducible exact hz) ?_ | refine upA_ne (by first | with_reducible exact hz) ?_ | refine ite_ne (by first | with_reducible exact hz) ?_ | refine ite_ctn (by assumption) ?_)); done)); (case wd => exact ⟨by omega, by omega, q3.done (fun hc => by have h9 := hc.1; omega) q2⟩))
  case done =>
    rintro pre tp h tk ⟨q1, q2, q3⟩ F N
    clear kF kN
    w_strict (repeat' (first | (k_unfold; (try dsimp only)) | (with_reducible (k_here; (with_reducible show wpAny _ _ (call (Value.ref 145) [Value.str _ _, Value.str _ _]) _ _ _); k_dflt ( refine' (sub_c _ _ _ _).use ?k1 ?k2 ?k3 ?k4 ?k5 ?kK ?kp ?kd ?ku ?_; (case k1 => k_asm); (case k2 => k_asm); (case k3 => k_asm); (case k4 => k_asm); (case k5 => k_asm); (case kK => first | exact rfl | assumption); (case kp => ((try dsimp only); omega)); (case kd => exact Nat.le_of_ble_eq_true rfl); (case ku => exact Nat.le_of_ble_eq_true rfl); intro t9qi h9qi tk9qi g9qi F9qi N9qi; (obtain ⟨c1qi, c2qi⟩ := g9qi); (try dsimp only); (try k_fold)))) | (with_reducible (k_here; (with_reducible show wpAny _ _ (call (Value.type _) [Value.ref _]) _ _ _); (rename IsRange _ _ _ _ _ _ _ _ => rgX); (with_unfolding_all refine' my_list_range ?k0 ?k1 ?k2 ?k3 ?k4 ?k5 ?k6 ?_; (case k0 => rfl); (case k1 => k_asm); (case k2 => k_asm); (case k3 => exact rgX); (case k4 => exact small_step2 _ (by assumption)); (case k5 => exact size_step2 _ (by assumption)); (case k6 => omega); k_whole); intro Dqi vsqi cqi hqi tkqi Fqi Nqi l1qi hIqi; (try k_lt l1qi); (try k_sweep))) | (with_reducible (k_here; (with_reducible show wpAny _ _ (subscriptTail (Expr.Name _ _) (Expr.Slice _ _ none _) (Value.str _ _) _) _ _ _); (with_reducible rename Fr _ _ _ _ => F'); (with_reducible rename News _ _ _ _ => N'); (first | (refine slice_strN_sn (hsz := ?hsz) (s := ⟨_, _, _, _, _⟩) F' N' ?_) | (refine slice_strN_ns (hsz := ?hsz) (s := ⟨_, _, _, _, _⟩) F' N' ?_) | (refine slice_strN_nn (hsz := ?hsz) (s := ⟨_, _, _, _, _⟩) F' N' ?_)); (case hsz => rw [sizeLine_eq]; omega); intro _ _ _ _ _; (try rw [slice_nn]); (try k_sweep); (try dsimp only))) | (with_reducible (k_here; (with_reducible show wpAny _ _ (storeName _ _ _) _ _ _); k_dflt ((first | refine' stI ?F ?N ?_ ?a ?b | refine' stS ?F ?N ?_ ?a ?b | refine' stA ?F ?N ?_ ?a ?b); (case F => k_asm); (case N => k_asm); (case a => exact Eq.refl ScopeKind.function); (case b => exact Eq.refl (some NameKind.local)); k_whole; intro hqi tqi uqi Fqi Nqi; (try k_sweep)))) | (with_reducible (k_here; (with_reducible show wpAny _ _ (eval (Expr.Name _ _) _) _ _ _); k_dflt (refine' nameX_L ?F ?v ?_ ?a ?b ?d; (case F => k_asm); (case a => exact Eq.refl ScopeKind.function); (case b => exact Eq.refl (some NameKind.local)); (case d => exact Eq.refl false); (case v => exact Eq.refl (some _)); k_whole))) | (k_end; wrow_close) | walk1 | (dsimp only; walk1) | (leave1; walk_say "STEP leave1"; try dsimp only)))
    refine mark_in ?_
    with_reducible rename News _ _ _ _ => kN
    with_reducible rename Fr _ _ _ _ => kF
    have f1 : ((Txt.slice a (some pre) none).length : Int) = a.length - pre := slice_sn_len a q1 q2 rfl
    have f2 : ((Txt.slice b (some pre) none).length : Int) = a.length - pre := slice_sn_len b q1 q2 p2
    obtain ⟨a1, ha1⟩ : ∃ a1, a1 = Txt.slice a (some pre) none := ⟨_, rfl⟩
    obtain ⟨b1, hb1⟩ : ∃ b1, b1 = Txt.slice b (some pre) none := ⟨_, rfl⟩
    rw [← ha1, ← hb1] at kF
    rw [← ha1] at f1
    rw [← hb1] at f2
    have f5 : b1.length = a1.length := by omega
    have la1 : a1.length ≤ 8 := by omega
    have hid1 : Hid (pre = preF a b 10 0) := q3
    clear f1 f2 p1 p2 q1 q2 q3
    refine my_while1 (Str.ofString "post") (fun p => p ≤ 0 ∧ - p ≤ a1.length ∧ PostP a1 b1 p) (fun p => p ≤ 0 ∧ - p ≤ a1.length ∧ p = postF a1 b1 10 0) (fun p => (a1.length + p).toNat) kF kN rfl ⟨by omega, by omega, PostP.start la1⟩ ?turn2 ?done2
    case turn2 =>
      rintro post tp h tk ⟨r1, r2, r3⟩ F N
      clear kF kN
      rcases Int.lt_or_eq_of_le r1 with r4 | r4
      · have u1 := @upto_neg a1 post r4
        have hb9 : (post != 0) = true := bne_iff_ne.mpr (Int.ne_of_lt r4)
        have u2 := @upto_neg b1 post r4
        have f3 : ((Txt.slice a1 none (some post)).length : Int) = a1.length + post := slice_ns_len a1 r4 r2 rfl
        have f4 : ((Txt.slice b1 none (some post)).length : Int) = a1.length + post := slice_ns_len b1 r4 r2 f5
        (repeat' ((fail_if_success (first | (with_reducible show W1End _ _ _ _ _ _ _ _) | (with_reducible show W1Post _ _ _ _ _ _ _ _ _ _))); (first | (k_unfold; (try dsimp only)) | ((first | (with_reducible (k_here; (with_reducible show wpAny _ _ (call (Value.ref 145) [Value.str _ _, Value.str _ _]) _ _ _); k_dflt ( refine' (sub_c _ _ _ _).use ?k1 ?k2 ?k3 ?k4 ?k5 ?kK ?kp ?kd ?ku ?_; (case k1 => k_asm); (case k2 => k_asm); (case k3 => k_asm); (case k4 => k_asm); (case k5 => k_asm); (case kK => first | exact rfl | assumption); (case kp => ((try dsimp only); omega)); (case kd => exact Nat.le_of_ble_eq_true rfl); (case ku => exact Nat.le_of_ble_eq_true rfl); intro t9qi h9qi tk9qi g9qi F9qi N9qi; (obtain ⟨c1qi, c2qi⟩ := g9qi); (try dsimp only); (try k_fold)))) | (with_reducible (k_here; (with_reducible show wpAny _ _ (call (Value.type _) [Value.ref _]) _ _ _); (rename IsRange _ _ _ _ _ _ _ _ => rgX); (with_unfolding_all refine' my_list_range ?k0 ?k1 ?k2 ?k3 ?k4 ?k5 ?k6 ?_; (case k0 => rfl); (case k1 => k_asm); (case k2 => k_asm); (case k3 => exact rgX); (case k4 => exact small_step2 _ (by assumption)); (case k5 => exact size_step2 _ (by assumption)); (case k6 => omega); k_whole); intro Dqi vsqi cqi hqi tkqi Fqi Nqi l1qi hIqi; (try k_lt l1qi); (try k_sweep))) | (with_reducible (k_here; (with_reducible show wpAny _ _ (subscriptTail (Expr.Name _ _) (Expr.Slice _ _ none _) (Value.str _ _) _) _ _ _); (with_reducible rename Fr _ _ _ _ => F'); (with_reducible rename News _ _ _ _ => N'); (first | (refine slice_strN_sn (hsz := ?hsz) (s := ⟨_, _, _, _, _⟩) F' N' ?_) | (refine slice_strN_ns (hsz := ?hsz) (s := ⟨_, _, _, _, _⟩) F' N' ?_) | (refine slice_strN_nn (hsz := ?hsz) (s := ⟨_, _, _, _, _⟩) F' N' ?_)); (case hsz => rw [sizeLine_eq]; omega); intro _ _ _ _ _; (try rw [slice_nn]); (try k_sweep); (try dsimp only))) | (with_reducible (k_here; (with_reducible show wpAny _ _ (storeName _ _ _) _ _ _); k_dflt ((first | refine' stI ?F ?N ?_ ?a ?b | refine' stS ?F ?N ?_ ?a ?b | refine' stA ?F ?N ?_ ?a ?b); (case F => k_asm); (case N => k_asm); (case a => exact Eq.refl ScopeKind.function); (case b => exact Eq.refl (some NameKind.local)); k_whole; intro hqi tqi uqi Fqi Nqi; (try k_sweep)))) | (with_reducible (k_here; (with_reducible show wpAny _ _ (eval (Expr.Name _ _) _) _ _ _); k_dflt (refine' nameX_L ?F ?v ?_ ?a ?b ?d; (case F => k_asm); (case a => exact Eq.refl ScopeKind.function); (case b => exact Eq.refl (some NameKind.local)); (case d => exact Eq.refl false); (case v => exact Eq.refl (some _)); k_whole)))); (all_goals (try dsimp only))) | (walk1; (all_goals (try dsimp only))) | (dsimp only; walk1))))
        all_goals first
          | (exfalso; omega)
          | (dsimp only [W1Post]; (with_reducible rename News _ _ _ _ => kN9); (with_reducible rename Fr _ _ _ _ => kF9); (refine' W1End.mk' kF9 kN9 ?wy ?wr ?wd); (case wy => with_unfolding_all rfl); (case wr => intro z hz; ((repeat (first | with_reducible exact rfl | refine upI_ne (by first | with_reducible exact hz) ?_ | refine upS_ne (by first | with_reducible exact hz) ?_ | refine upA_ne (by first | with_reducible exact hz) ?_ | refine ite_ne (by first | with_reducible exact hz) ?_ | refine ite_ctn (by assumption) ?_)); done)); (case wd => refine ⟨⟨by omega, by omega, r3.step (by omega) (by rw [u1]; omega) (by rw [u2]; omega) (by assumption)⟩, by omega⟩))
          | ((with_reducible rename News _ _ _ _ => kN9); (with_reducible rename Fr _ _ _ _ => kF9); (refine' W1End.mk' kF9 kN9 ?wy ?wr ?wd); (case wy => with_unfolding_all rfl); (case wr => intro z hz; ((repeat (first | with_reducible exact rfl | refine upI_ne (by first | with_reducible exact hz) ?_ | refine upS_ne (by first | with_reducible exact hz) ?_ | refine upA_ne (by first | with_reducible exact hz) ?_ | refine ite_ne (by first | with_reducible exact hz) ?_ | refine ite_ctn (by assumption) ?_)); done)); (case wd => exact ⟨by omega, by omega, r3.done (by omega) (fun hc => absurd hc.2 (by rw [Bool.not_eq_true]; assumption))⟩))
          | ((with_reducible rename News _ _ _ _ => kN9); (with_reducible rename Fr _ _ _ _ => kF9); (refine' W1End.mk' kF9 kN9 ?wy ?wr ?wd); (case wy => with_unfolding_all rfl); (case wr => intro z hz; ((repeat (first | with_reducible exact rfl | refine upI_ne (by first | with_reducible exact hz) ?_ | refine upS_ne (by first | with_reducible exact hz) ?_ | refine upA_ne (by first | with_reducible exact hz) ?_ | refine ite_ne (by first | with_reducible exact hz) ?_ | refine ite_ctn (by assumption) ?_)); done)); (case wd => exact ⟨by omega, by omega, r3.done (by omega) (fun hc => by have h9 := hc.1; rw [u1, u2] at h9; omega)⟩))
      · have u1 := @upto_zero a1 post r4
        have hb9 : (post != 0) = false := by rw [r4]; rfl
        have u2 := @upto_zero b1 post r4
        (repeat' ((fail_if_success (first | (with_reducible show W1End _ _ _ _ _ _ _ _) | (with_reducible show W1Post _ _ _ _ _ _ _ _ _ _))); (first | (k_unfold; (try dsimp only)) | ((first | (with_reducible (k_here; (with_reducible show wpAny _ _ (call (Value.ref 145) [Value.str _ _, Value.str _ _]) _ _ _); k_dflt ( refine' (sub_c _ _ _ _).use ?k1 ?k2 ?k3 ?k4 ?k5 ?kK ?kp ?kd ?ku ?_; (case k1 => k_asm); (case k2 => k_asm); (case k3 => k_asm); (case k4 => k_asm); (case k5 => k_asm); (case kK => first | exact rfl | assumption); (case kp => ((try dsimp only); omega)); (case kd => exact Nat.le_of_ble_eq_true rfl); (case ku => exact Nat.le_of_ble_eq_true rfl); intro t9qi h9qi tk9qi g9qi F9qi N9qi; (obtain ⟨c1qi, c2qi⟩ := g9qi); (try dsimp only); (try k_fold)))) | (with_reducible (k_here; (with_reducible show wpAny _ _ (call (Value.type _) [Value.ref _]) _ _ _); (rename IsRange _ _ _ _ _ _ _ _ => rgX); (with_unfolding_all refine' my_list_range ?k0 ?k1 ?k2 ?k3 ?k4 ?k5 ?k6 ?_; (case k0 => rfl); (case k1 => k_asm); (case k2 => k_asm); (case k3 => exact rgX); (case k4 => exact small_step2 _ (by assumption)); (case k5 => exact size_step2 _ (by assumption)); (case k6 => omega); k_whole); intro Dqi vsqi cqi hqi tkqi Fqi Nqi l1qi hIqi; (try k_lt l1qi); (try k_sweep))) | (with_reducible (k_here; (with_reducible show wpAny _ _ (subscriptTail (Expr.Name _ _) (Expr.Slice _ _ none _) (Value.str _ _) _) _ _ _); (with_reducible rename Fr _ _ _ _ => F'); (with_reducible rename News _ _ _ _ => N'); (first | (refine slice_strN_sn (hsz := ?hsz) (s := ⟨_, _, _, _, _⟩) F' N' ?_) | (refine slice_strN_ns (hsz := ?hsz) (s := ⟨_, _, _, _, _⟩) F' N' ?_) | (refine slice_strN_nn (hsz := ?hsz) (s := ⟨_, _, _, _, _⟩) F' N' ?_)); (case hsz => rw [sizeLine_eq]; omega); intro _ _ _ _ _; (try rw [slice_nn]); (try k_sweep); (try dsimp only))) | (with_reducible (k_here; (with_reducible show wpAny _ _ (storeName _ _ _) _ _ _); k_dflt ((first | refine' stI ?F ?N ?_ ?a ?b | refine' stS ?F ?N ?_ ?a ?b | refine' stA ?F ?N ?_ ?a ?b); (case F => k_asm); (case N => k_asm); (case a => exact Eq.refl ScopeKind.function); (case b => exact Eq.refl (some NameKind.local)); k_whole; intro hqi tqi uqi Fqi Nqi; (try k_sweep)))) | (with_reducible (k_here; (with_reducible show wpAny _ _ (eval (Expr.Name _ _) _) _ _ _); k_dflt (refine' nameX_L ?F ?v ?_ ?a ?b ?d; (case F => k_asm); (case a => exact Eq.refl ScopeKind.function); (case b => exact Eq.refl (some NameKind.local)); (case d => exact Eq.refl false); (case v => exact Eq.refl (some _)); k_whole)))); (all_goals (try dsimp only))) | (walk1; (all_goals (try dsimp only))) | (dsimp only; walk1))))
        all_goals first
          | (exfalso; omega)
          | (dsimp only [W1Post]; (with_reducible rename News _ _ _ _ => kN9); (with_reducible rename Fr _ _ _ _ => kF9); (refine' W1End.mk' kF9 kN9 ?wy ?wr ?wd); (case wy => with_unfolding_all rfl); (case wr => intro z hz; ((repeat (first | with_reducible exact rfl | refine upI_ne (by first | with_reducible exact hz) ?_ | refine upS_ne (by first | with_reducible exact hz) ?_ | refine upA_ne (by first | with_reducible exact hz) ?_ | refine ite_ne (by first | with_reducible exact hz) ?_ | refine ite_ctn (by assumption) ?_)); done)); (case wd => refine ⟨⟨by omega, by omega, r3.step (by omega) (by rw [u1]; omega) (by rw [u2]; omega) (by assumption)⟩, by omega⟩))
          | ((with_reducible rename News _ _ _ _ => kN9); (with_reducible rename Fr _ _ _ _ => kF9); (refine' W1End.mk' kF9 kN9 ?wy ?wr ?wd); (case wy => with_unfolding_all rfl); (case wr => intro z hz; ((repeat (first | with_reducible exact rfl | refine upI_ne (by first | with_reducible exact hz) ?_ | refine upS_ne (by first | with_reducible exact hz) ?_ | refine upA_ne (by first | with_reducible exact hz) ?_ | refine ite_ne (by first | with_reducible exact hz) ?_ | refine ite_ctn (by assumption) ?_)); done)); (case wd => exact ⟨by omega, by omega, r3.done (by omega) (fun hc => absurd hc.2 (by rw [Bool.not_eq_true]; assumption))⟩))
          | ((with_reducible rename News _ _ _ _ => kN9); (with_reducible rename Fr _ _ _ _ => kF9); (refine' W1End.mk' kF9 kN9 ?wy ?wr ?wd); (case wy => with_unfolding_all rfl); (case wr => intro z hz; ((repeat (first | with_reducible exact rfl | refine upI_ne (by first | with_reducible exact hz) ?_ | refine upS_ne (by first | with_reducible exact hz) ?_ | refine upA_ne (by first | with_reducible exact hz) ?_ | refine ite_ne (by first | with_reducible exact hz) ?_ | refine ite_ctn (by assumption) ?_)); done)); (case wd => exact ⟨by omega, by omega, r3.done (by omega) (fun hc => by have h9 := hc.1; rw [u1, u2] at h9; omega)⟩))
    case done2 =>
      rintro post tp h tk ⟨r1, r2, r3⟩ F N
      clear kF kN
      have hid3 : Hid (post = postF a1 b1 10 0) := r3
      clear r3
      (try k_unfold)
      (try dsimp only)
      refine wpAny_execs_cons ?_
      refine cut_str (Str.ofString "a") (upto a1 post) F N ?cuta ?nexta
      case cuta =>
        rcases Int.lt_or_eq_of_le r1 with r4 | r4
        · have u1 := @upto_neg a1 post r4
          have hb9 : (post != 0) = true := bne_iff_ne.mpr (Int.ne_of_lt r4)
          (repeat' ((fail_if_success (with_reducible show CutStr _ _ _ _ _ _ _ _ _)); (first | (k_unfold; (try dsimp only)) | ((first | (with_reducible (k_here; (with_reducible show wpAny _ _ (call (Value.ref 145) [Value.str _ _, Value.str _ _]) _ _ _); k_dflt ( refine' (sub_c _ _ _ _).use ?k1 ?k2 ?k3 ?k4 ?k5 ?kK ?kp ?kd ?ku ?_; (case k1 => k_asm); (case k2 => k_asm); (case k3 => k_asm); (case k4 => k_asm); (case k5 => k_asm); (case kK => first | exact rfl | assumption); (case kp => ((try dsimp only); omega)); (case kd => exact Nat.le_of_ble_eq_true rfl); (case ku => exact Nat.le_of_ble_eq_true rfl); intro t9qi h9qi tk9qi g9qi F9qi N9qi; (obtain ⟨c1qi, c2qi⟩ := g9qi); (try dsimp only); (try k_fold)))) | (with_reducible (k_here; (with_reducible show wpAny _ _ (call (Value.type _) [Value.ref _]) _ _ _); (rename IsRange _ _ _ _ _ _ _ _ => rgX); (with_unfolding_all refine' my_list_range ?k0 ?k1 ?k2 ?k3 ?k4 ?k5 ?k6 ?_; (case k0 => rfl); (case k1 => k_asm); (case k2 => k_asm); (case k3 => exact rgX); (case k4 => exact small_step2 _ (by assumption)); (case k5 => exact size_step2 _ (by assumption)); (case k6 => omega); k_whole); intro Dqi vsqi cqi hqi tkqi Fqi Nqi l1qi hIqi; (try k_lt l1qi); (try k_sweep))) | (with_reducible (k_here; (with_reducible show wpAny _ _ (subscriptTail (Expr.Name _ _) (Expr.Slice _ _ none _) (Value.str _ _) _) _ _ _); (with_reducible rename Fr _ _ _ _ => F'); (with_reducible rename News _ _ _ _ => N'); (first | (refine slice_strN_sn (hsz := ?hsz) (s := ⟨_, _, _, _, _⟩) F' N' ?_) | (refine slice_strN_ns (hsz := ?hsz) (s := ⟨_, _, _, _, _⟩) F' N' ?_) | (refine slice_strN_nn (hsz := ?hsz) (s := ⟨_, _, _, _, _⟩) F' N' ?_)); (case hsz => rw [sizeLine_eq]; omega); intro _ _ _ _ _; (try rw [slice_nn]); (try k_sweep); (try dsimp only))) | (with_reducible (k_here; (with_reducible show wpAny _ _ (storeName _ _ _) _ _ _); k_dflt ((first | refine' stI ?F ?N ?_ ?a ?b | refine' stS ?F ?N ?_ ?a ?b | refine' stA ?F ?N ?_ ?a ?b); (case F => k_asm); (case N => k_asm); (case a => exact Eq.refl ScopeKind.function); (case b => exact Eq.refl (some NameKind.local)); k_whole; intro hqi tqi uqi Fqi Nqi; (try k_sweep)))) | (with_reducible (k_here; (with_reducible show wpAny _ _ (eval (Expr.Name _ _) _) _ _ _); k_dflt (refine' nameX_L ?F ?v ?_ ?a ?b ?d; (case F => k_asm); (case a => exact Eq.refl ScopeKind.function); (case b => exact Eq.refl (some NameKind.local)); (case d => exact Eq.refl false); (case v => exact Eq.refl (some _)); k_whole)))); (all_goals (try dsimp only))) | (walk1; (all_goals (try dsimp only))) | (dsimp only; walk1))))
          all_goals first
            | (exfalso; omega)
            | ((with_reducible rename News _ _ _ _ => kN9); (with_reducible rename Fr _ _ _ _ => kF9); (refine' CutStr.mk' kF9 kN9 ?wy ?wr); (case wy => rw [u1]; with_unfolding_all rfl); (case wr => intro z hz; ((repeat (first | with_reducible exact rfl | refine upI_ne (by first | exact hz) ?_ | refine upS_ne (by first | exact hz) ?_ | refine upA_ne (by first | exact hz) ?_ | refine ite_ne (by first | exact hz) ?_ | refine ite_ctn (by assumption) ?_)); done)))
        · have u1 := @upto_zero a1 post r4
          have hb9 : (post != 0) = false := by rw [r4]; rfl
          (repeat' ((fail_if_success (with_reducible show CutStr _ _ _ _ _ _ _ _ _)); (first | (k_unfold; (try dsimp only)) | ((first | (with_reducible (k_here; (with_reducible show wpAny _ _ (call (Value.ref 145) [Value.str _ _, Value.str _ _]) _ _ _); k_dflt ( refine' (sub_c _ _ _ _).use ?k1 ?k2 ?k3 ?k4 ?k5 ?kK ?kp ?kd ?ku ?_; (case k1 => k_asm); (case k2 => k_asm); (case k3 => k_asm); (case k4 => k_asm); (case k5 => k_asm); (case kK => first | exact rfl | assumption); (case kp => ((try dsimp only); omega)); (case kd => exact Nat.le_of_ble_eq_true rfl); (case ku => exact Nat.le_of_ble_eq_true rfl); intro t9qi h9qi tk9qi g9qi F9qi N9qi; (obtain ⟨c1qi, c2qi⟩ := g9qi); (try dsimp only); (try k_fold)))) | (with_reducible (k_here; (with_reducible show wpAny _ _ (call (Value.type _) [Value.ref _]) _ _ _); (rename IsRange _ _ _ _ _ _ _ _ => rgX); (with_unfolding_all refine' my_list_range ?k0 ?k1 ?k2 ?k3 ?k4 ?k5 ?k6 ?_; (case k0 => rfl); (case k1 => k_asm); (case k2 => k_asm); (case k3 => exact rgX); (case k4 => exact small_step2 _ (by assumption)); (case k5 => exact size_step2 _ (by assumption)); (case k6 => omega); k_whole); intro Dqi vsqi cqi hqi tkqi Fqi Nqi l1qi hIqi; (try k_lt l1qi); (try k_sweep))) | (with_reducible (k_here; (with_reducible show wpAny _ _ (subscriptTail (Expr.Name _ _) (Expr.Slice _ _ none _) (Value.str _ _) _) _ _ _); (with_reducible rename Fr _ _ _ _ => F'); (with_reducible rename News _ _ _ _ => N'); (first | (refine slice_strN_sn (hsz := ?hsz) (s := ⟨_, _, _, _, _⟩) F' N' ?_) | (refine slice_strN_ns (hsz := ?hsz) (s := ⟨_, _, _, _, _⟩) F' N' ?_) | (refine slice_strN_nn (hsz := ?hsz) (s := ⟨_, _, _, _, _⟩) F' N' ?_)); (case hsz => rw [sizeLine_eq]; omega); intro _ _ _ _ _; (try rw [slice_nn]); (try k_sweep); (try dsimp only))) | (with_reducible (k_here; (with_reducible show wpAny _ _ (storeName _ _ _) _ _ _); k_dflt ((first | refine' stI ?F ?N ?_ ?a ?b | refine' stS ?F ?N ?_ ?a ?b | refine' stA ?F ?N ?_ ?a ?b); (case F => k_asm); (case N => k_asm); (case a => exact Eq.refl ScopeKind.function); (case b => exact Eq.refl (some NameKind.local)); k_whole; intro hqi tqi uqi Fqi Nqi; (try k_sweep)))) | (with_reducible (k_here; (with_reducible show wpAny _ _ (eval (Expr.Name _ _) _) _ _ _); k_dflt (refine' nameX_L ?F ?v ?_ ?a ?b ?d; (case F => k_asm); (case a => exact Eq.refl ScopeKind.function); (case b => exact Eq.refl (some NameKind.local)); (case d => exact Eq.refl false); (case v => exact Eq.refl (some _)); k_whole)))); (all_goals (try dsimp only))) | (walk1; (all_goals (try dsimp only))) | (dsimp only; walk1))))
          all_goals first
            | (exfalso; omega)
            | ((with_reducible rename News _ _ _ _ => kN9); (with_reducible rename Fr _ _ _ _ => kF9); (refine' CutStr.mk' kF9 kN9 ?wy ?wr); (case wy => rw [u1]; with_unfolding_all rfl); (case wr => intro z hz; ((repeat (first | with_reducible exact rfl | refine upI_ne (by first | exact hz) ?_ | refine upS_ne (by first | exact hz) ?_ | refine upA_ne (by first | exact hz) ?_ | refine ite_ne (by first | exact hz) ?_ | refine ite_ctn (by assumption) ?_)); done)))
      rintro ta h tk F N
      (try k_unfold)
      (try dsimp only)
      refine wpAny_execs_cons ?_
      refine cut_str (Str.ofString "b") (upto b1 post) F N ?cutb ?nextb
      case cutb =>
        rcases Int.lt_or_eq_of_le r1 with r4 | r4
        · have u1 := @upto_neg b1 post r4
          have hb9 : (post != 0) = true := bne_iff_ne.mpr (Int.ne_of_lt r4)
          (repeat' ((fail_if_success (with_reducible show CutStr _ _ _ _ _ _ _ _ _)); (first | (k_unfold; (try dsimp only)) | ((first | (with_reducible (k_here; (with_reducible show wpAny _ _ (call (Value.ref 145) [Value.str _ _, Value.str _ _]) _ _ _); k_dflt ( refine' (sub_c _ _ _ _).use ?k1 ?k2 ?k3 ?k4 ?k5 ?kK ?kp ?kd ?ku ?_; (case k1 => k_asm); (case k2 => k_asm); (case k3 => k_asm); (case k4 => k_asm); (case k5 => k_asm); (case kK => first | exact rfl | assumption); (case kp => ((try dsimp only); omega)); (case kd => exact Nat.le_of_ble_eq_true rfl); (case ku => exact Nat.le_of_ble_eq_true rfl); intro t9qi h9qi tk9qi g9qi F9qi N9qi; (obtain ⟨c1qi, c2qi⟩ := g9qi); (try dsimp only); (try k_fold)))) | (with_reducible (k_here; (with_reducible show wpAny _ _ (call (Value.type _) [Value.ref _]) _ _ _); (rename IsRange _ _ _ _ _ _ _ _ => rgX); (with_unfolding_all refine' my_list_range ?k0 ?k1 ?k2 ?k3 ?k4 ?k5 ?k6 ?_; (case k0 => rfl); (case k1 => k_asm); (case k2 => k_asm); (case k3 => exact rgX); (case k4 => exact small_step2 _ (by assumption)); (case k5 => exact size_step2 _ (by assumption)); (case k6 => omega); k_whole); intro Dqi vsqi cqi hqi tkqi Fqi Nqi l1qi hIqi; (try k_lt l1qi); (try k_sweep))) | (with_reducible (k_here; (with_reducible show wpAny _ _ (subscriptTail (Expr.Name _ _) (Expr.Slice _ _ none _) (Value.str _ _) _) _ _ _); (with_reducible rename Fr _ _ _ _ => F'); (with_reducible rename News _ _ _ _ => N'); (first | (refine slice_strN_sn (hsz := ?hsz) (s := ⟨_, _, _, _, _⟩) F' N' ?_) | (refine slice_strN_ns (hsz := ?hsz) (s := ⟨_, _, _, _, _⟩) F' N' ?_) | (refine slice_strN_nn (hsz := ?hsz) (s := ⟨_, _, _, _, _⟩) F' N' ?_)); (case hsz => rw [sizeLine_eq]; omega); intro _ _ _ _ _; (try rw [slice_nn]); (try k_sweep); (try dsimp only))) | (with_reducible (k_here; (with_reducible show wpAny _ _ (storeName _ _ _) _ _ _); k_dflt ((first | refine' stI ?F ?N ?_ ?a ?b | refine' stS ?F ?N ?_ ?a ?b | refine' stA ?F ?N ?_ ?a ?b); (case F => k_asm); (case N => k_asm); (case a => exact Eq.refl ScopeKind.function); (case b => exact Eq.refl (some NameKind.local)); k_whole; intro hqi tqi uqi Fqi Nqi; (try k_sweep)))) | (with_reducible (k_here; (with_reducible show wpAny _ _ (eval (Expr.Name _ _) _) _ _ _); k_dflt (refine' nameX_L ?F ?v ?_ ?a ?b ?d; (case F => k_asm); (case a => exact Eq.refl ScopeKind.function); (case b => exact Eq.refl (some NameKind.local)); (case d => exact Eq.refl false); (case v => exact Eq.refl (some _)); k_whole)))); (all_goals (try dsimp only))) | (walk1; (all_goals (try dsimp only))) | (dsimp only; walk1))))
          all_goals first
            | (exfalso; omega)
            | ((with_reducible rename News _ _ _ _ => kN9); (with_reducible rename Fr _ _ _ _ => kF9); (refine' CutStr.mk' kF9 kN9 ?wy ?wr); (case wy => rw [u1]; with_unfolding_all rfl); (case wr => intro z hz; ((repeat (first | with_reducible exact rfl | refine upI_ne (by first | exact hz) ?_ | refine upS_ne (by first | exact hz) ?_ | refine upA_ne (by first | exact hz) ?_ | refine ite_ne (by first | exact hz) ?_ | refine ite_ctn (by assumption) ?_)); done)))
        · have u1 := @upto_zero b1 post r4
          have hb9 : (post != 0) = false := by rw [r4]; rfl
          (repeat' ((fail_if_success (with_reducible show CutStr _ _ _ _ _ _ _ _ _)); (first | (k_unfold; (try dsimp only)) | ((first | (with_reducible (k_here; (with_reducible show wpAny _ _ (call (Value.ref 145) [Value.str _ _, Value.str _ _]) _ _ _); k_dflt ( refine' (sub_c _ _ _ _).use ?k1 ?k2 ?k3 ?k4 ?k5 ?kK ?kp ?kd ?ku ?_; (case k1 => k_asm); (case k2 => k_asm); (case k3 => k_asm); (case k4 => k_asm); (case k5 => k_asm); (case kK => first | exact rfl | assumption); (case kp => ((try dsimp only); omega)); (case kd => exact Nat.le_of_ble_eq_true rfl); (case ku => exact Nat.le_of_ble_eq_true rfl); intro t9qi h9qi tk9qi g9qi F9qi N9qi; (obtain ⟨c1qi, c2qi⟩ := g9qi); (try dsimp only); (try k_fold)))) | (with_reducible (k_here; (with_reducible show wpAny _ _ (call (Value.type _) [Value.ref _]) _ _ _); (rename IsRange _ _ _ _ _ _ _ _ => rgX); (with_unfolding_all refine' my_list_range ?k0 ?k1 ?k2 ?k3 ?k4 ?k5 ?k6 ?_; (case k0 => rfl); (case k1 => k_asm); (case k2 => k_asm); (case k3 => exact rgX); (case k4 => exact small_step2 _ (by assumption)); (case k5 => exact size_step2 _ (by assumption)); (case k6 => omega); k_whole); intro Dqi vsqi cqi hqi tkqi Fqi Nqi l1qi hIqi; (try k_lt l1qi); (try k_sweep))) | (with_reducible (k_here; (with_reducible show wpAny _ _ (subscriptTail (Expr.Name _ _) (Expr.Slice _ _ none _) (Value.str _ _) _) _ _ _); (with_reducible rename Fr _ _ _ _ => F'); (with_reducible rename News _ _ _ _ => N'); (first | (refine slice_strN_sn (hsz := ?hsz) (s := ⟨_, _, _, _, _⟩) F' N' ?_) | (refine slice_strN_ns (hsz := ?hsz) (s := ⟨_, _, _, _, _⟩) F' N' ?_) | (refine slice_strN_nn (hsz := ?hsz) (s := ⟨_, _, _, _, _⟩) F' N' ?_)); (case hsz => rw [sizeLine_eq]; omega); intro _ _ _ _ _; (try rw [slice_nn]); (try k_sweep); (try dsimp only))) | (with_reducible (k_here; (with_reducible show wpAny _ _ (storeName _ _ _) _ _ _); k_dflt ((first | refine' stI ?F ?N ?_ ?a ?b | refine' stS ?F ?N ?_ ?a ?b | refine' stA ?F ?N ?_ ?a ?b); (case F => k_asm); (case N => k_asm); (case a => exact Eq.refl ScopeKind.function); (case b => exact Eq.refl (some NameKind.local)); k_whole; intro hqi tqi uqi Fqi Nqi; (try k_sweep)))) | (with_reducible (k_here; (with_reducible show wpAny _ _ (eval (Expr.Name _ _) _) _ _ _); k_dflt (refine' nameX_L ?F ?v ?_ ?a ?b ?d; (case F => k_asm); (case a => exact Eq.refl ScopeKind.function); (case b => exact Eq.refl (some NameKind.local)); (case d => exact Eq.refl false); (case v => exact Eq.refl (some _)); k_whole)))); (all_goals (try dsimp only))) | (walk1; (all_goals (try dsimp only))) | (dsimp only; walk1))))
          all_goals first
            | (exfalso; omega)
            | ((with_reducible rename News _ _ _ _ => kN9); (with_reducible rename Fr _ _ _ _ => kF9); (refine' CutStr.mk' kF9 kN9 ?wy ?wr); (case wy => rw [u1]; with_unfolding_all rfl); (case wr => intro z hz; ((repeat (first | with_reducible exact rfl | refine upI_ne (by first | exact hz) ?_ | refine upS_ne (by first | exact hz) ?_ | refine upA_ne (by first | exact hz) ?_ | refine ite_ne (by first | exact hz) ?_ | refine ite_ctn (by assumption) ?_)); done)))
      rintro tb h tk F N
      have ea : upto a1 post = levA a b := by rw [show post = postF a1 b1 10 0 from hid3, ha1, hb1, show pre = preF a b 10 0 from hid1]; rfl
      have eb : upto b1 post = levB a b := by rw [show post = postF a1 b1 10 0 from hid3, ha1, hb1, show pre = preF a b 10 0 from hid1]; rfl
      have la : ((upto a1 post).length : Int) = a1.length + post := upto_len a1 r1 r2 rfl
      have lb : ((upto b1 post).length : Int) = a1.length + post := upto_len b1 r1 r2 f5
      rw [ea] at la F
      rw [eb] at lb F
      obtain ⟨a2, ha2⟩ : ∃ a2, a2 = levA a b := ⟨_, rfl⟩
      obtain ⟨b2, hb2⟩ : ∃ b2, b2 = levB a b := ⟨_, rfl⟩
      rw [← ha2] at la F p6
      rw [← hb2] at lb F
      have l1 : b2.length = a2.length := by omega
      have l2 : a2.length ≤ 8 := by omega
      clear la lb ea eb f5
      (repeat' ((fail_if_success (with_reducible show MyMark _)); (first | (k_unfold; (try dsimp only)) | ((first | (with_reducible (k_here; (with_reducible show wpAny _ _ (call (Value.ref 145) [Value.str _ _, Value.str _ _]) _ _ _); k_dflt ( refine' (sub_c _ _ _ _).use ?k1 ?k2 ?k3 ?k4 ?k5 ?kK ?kp ?kd ?ku ?_; (case k1 => k_asm); (case k2 => k_asm); (case k3 => k_asm); (case k4 => k_asm); (case k5 => k_asm); (case kK => first | exact rfl | assumption); (case kp => ((try dsimp only); omega)); (case kd => exact Nat.le_of_ble_eq_true rfl); (case ku => exact Nat.le_of_ble_eq_true rfl); intro t9qi h9qi tk9qi g9qi F9qi N9qi; (obtain ⟨c1qi, c2qi⟩ := g9qi); (try dsimp only); (try k_fold)))) | (with_reducible (k_here; (with_reducible show wpAny _ _ (call (Value.type _) [Value.ref _]) _ _ _); (rename IsRange _ _ _ _ _ _ _ _ => rgX); (with_unfolding_all refine' my_list_range ?k0 ?k1 ?k2 ?k3 ?k4 ?k5 ?k6 ?_; (case k0 => rfl); (case k1 => k_asm); (case k2 => k_asm); (case k3 => exact rgX); (case k4 => exact small_step2 _ (by assumption)); (case k5 => exact size_step2 _ (by assumption)); (case k6 => omega); k_whole); intro Dqi vsqi cqi hqi tkqi Fqi Nqi l1qi hIqi; (try k_lt l1qi); (try k_sweep))) | (with_reducible (k_here; (with_reducible show wpAny _ _ (subscriptTail (Expr.Name _ _) (Expr.Slice _ _ none _) (Value.str _ _) _) _ _ _); (with_reducible rename Fr _ _ _ _ => F'); (with_reducible rename News _ _ _ _ => N'); (first | (refine slice_strN_sn (hsz := ?hsz) (s := ⟨_, _, _, _, _⟩) F' N' ?_) | (refine slice_strN_ns (hsz := ?hsz) (s := ⟨_, _, _, _, _⟩) F' N' ?_) | (refine slice_strN_nn (hsz := ?hsz) (s := ⟨_, _, _, _, _⟩) F' N' ?_)); (case hsz => rw [sizeLine_eq]; omega); intro _ _ _ _ _; (try rw [slice_nn]); (try k_sweep); (try dsimp only))) | (with_reducible (k_here; (with_reducible show wpAny _ _ (storeName _ _ _) _ _ _); k_dflt ((first | refine' stI ?F ?N ?_ ?a ?b | refine' stS ?F ?N ?_ ?a ?b | refine' stA ?F ?N ?_ ?a ?b); (case F => k_asm); (case N => k_asm); (case a => exact Eq.refl ScopeKind.function); (case b => exact Eq.refl (some NameKind.local)); k_whole; intro hqi tqi uqi Fqi Nqi; (try k_sweep)))) | (with_reducible (k_here; (with_reducible show wpAny _ _ (eval (Expr.Name _ _) _) _ _ _); k_dflt (refine' nameX_L ?F ?v ?_ ?a ?b ?d; (case F => k_asm); (case a => exact Eq.refl ScopeKind.function); (case b => exact Eq.refl (some NameKind.local)); (case d => exact Eq.refl false); (case v => exact Eq.refl (some _)); k_whole)))); (all_goals (try dsimp only))) | (walk1; (all_goals (try dsimp only))) | (dsimp only; walk1))))
      rotate_left
      · exfalso; omega
      · exfalso; omega
      refine mark_in ?_
      with_reducible rename News _ _ _ _ => kN
      with_reducible rename Fr _ _ _ _ => kF
      rename IsRange _ _ _ _ _ _ _ _ => kR
      have hl0 : (rangeInts 2 2 a2.length).length = a2.length := rangeInts_length _ _ _
      k_dflt (refine' lev_outer (a := a2) (b := b2) kF kN rfl kR (by omega) (by assumption) hl0 rfl ?oturn ?odone)
      case odone =>
        intro vs ns e r' tr ui u h tk hrun F N
        (repeat' (first | (k_unfold; (try dsimp only)) | ((first | (with_reducible (k_here; (with_reducible show wpAny _ _ (call (Value.ref 145) [Value.str _ _, Value.str _ _]) _ _ _); k_dflt ( refine' (sub_c _ _ _ _).use ?k1 ?k2 ?k3 ?k4 ?k5 ?kK ?kp ?kd ?ku ?_; (case k1 => k_asm); (case k2 => k_asm); (case k3 => k_asm); (case k4 => k_asm); (case k5 => k_asm); (case kK => first | exact rfl | assumption); (case kp => ((try dsimp only); omega)); (case kd => exact Nat.le_of_ble_eq_true rfl); (case ku => exact Nat.le_of_ble_eq_true rfl); intro t9qi h9qi tk9qi g9qi F9qi N9qi; (obtain ⟨c1qi, c2qi⟩ := g9qi); (try dsimp only); (try k_fold)))) | (with_reducible (k_here; (with_reducible show wpAny _ _ (call (Value.type _) [Value.ref _]) _ _ _); (rename IsRange _ _ _ _ _ _ _ _ => rgX); (with_unfolding_all refine' my_list_range ?k0 ?k1 ?k2 ?k3 ?k4 ?k5 ?k6 ?_; (case k0 => rfl); (case k1 => k_asm); (case k2 => k_asm); (case k3 => exact rgX); (case k4 => exact small_step2 _ (by assumption)); (case k5 => exact size_step2 _ (by assumption)); (case k6 => omega); k_whole); intro Dqi vsqi cqi hqi tkqi Fqi Nqi l1qi hIqi; (try k_lt l1qi); (try k_sweep))) | (with_reducible (k_here; (with_reducible show wpAny _ _ (subscriptTail (Expr.Name _ _) (Expr.Slice _ _ none _) (Value.str _ _) _) _ _ _); (with_reducible rename Fr _ _ _ _ => F'); (with_reducible rename News _ _ _ _ => N'); (first | (refine slice_strN_sn (hsz := ?hsz) (s := ⟨_, _, _, _, _⟩) F' N' ?_) | (refine slice_strN_ns (hsz := ?hsz) (s := ⟨_, _, _, _, _⟩) F' N' ?_) | (refine slice_strN_nn (hsz := ?hsz) (s := ⟨_, _, _, _, _⟩) F' N' ?_)); (case hsz => rw [sizeLine_eq]; omega); intro _ _ _ _ _; (try rw [slice_nn]); (try k_sweep); (try dsimp only))) | (with_reducible (k_here; (with_reducible show wpAny _ _ (storeName _ _ _) _ _ _); k_dflt ((first | refine' stI ?F ?N ?_ ?a ?b | refine' stS ?F ?N ?_ ?a ?b | refine' stA ?F ?N ?_ ?a ?b); (case F => k_asm); (case N => k_asm); (case a => exact Eq.refl ScopeKind.function); (case b => exact Eq.refl (some NameKind.local)); k_whole; intro hqi tqi uqi Fqi Nqi; (try k_sweep)))) | (with_reducible (k_here; (with_reducible show wpAny _ _ (eval (Expr.Name _ _) _) _ _ _); k_dflt (refine' nameX_L ?F ?v ?_ ?a ?b ?d; (case F => k_asm); (case a => exact Eq.refl ScopeKind.function); (case b => exact Eq.refl (some NameKind.local)); (case d => exact Eq.refl false); (case v => exact Eq.refl (some _)); k_whole)))); (all_goals (try dsimp only))) | (walk1; (all_goals (try dsimp only))) | (dsimp only; walk1)))
        refine cb_retI (fun t h' tk' => hret t h' tk' trivial) ?_ (by k_asm) (by first | k_asm | (refine' cb_drop ?cbN ?cbS; (case cbN => assumption); (case cbS => kcj_all)))
        rw [← pX.e]
        unfold levF
        rw [← ha2, ← hb2, hrun]
      case oturn =>
        clear kF kN kR
        intro vs ns e r' tr j t u h tk I oI hj hns hL hrun hne hrI F N
        (repeat' ((fail_if_success (with_reducible show MyMark _)); (first | (k_unfold; (try dsimp only)) | ((first | (with_reducible (k_here; (with_reducible show wpAny _ _ (call (Value.ref 145) [Value.str _ _, Value.str _ _]) _ _ _); k_dflt ( refine' (sub_c _ _ _ _).use ?k1 ?k2 ?k3 ?k4 ?k5 ?kK ?kp ?kd ?ku ?_; (case k1 => k_asm); (case k2 => k_asm); (case k3 => k_asm); (case k4 => k_asm); (case k5 => k_asm); (case kK => first | exact rfl | assumption); (case kp => ((try dsimp only); omega)); (case kd => exact Nat.le_of_ble_eq_true rfl); (case ku => exact Nat.le_of_ble_eq_true rfl); intro t9qi h9qi tk9qi g9qi F9qi N9qi; (obtain ⟨c1qi, c2qi⟩ := g9qi); (try dsimp only); (try k_fold)))) | (with_reducible (k_here; (with_reducible show wpAny _ _ (call (Value.type _) [Value.ref _]) _ _ _); (rename IsRange _ _ _ _ _ _ _ _ => rgX); (with_unfolding_all refine' my_list_range ?k0 ?k1 ?k2 ?k3 ?k4 ?k5 ?k6 ?_; (case k0 => rfl); (case k1 => k_asm); (case k2 => k_asm); (case k3 => exact rgX); (case k4 => exact small_step2 _ (by assumption)); (case k5 => exact size_step2 _ (by assumption)); (case k6 => omega); k_whole); intro Dqi vsqi cqi hqi tkqi Fqi Nqi l1qi hIqi; (try k_lt l1qi); (try k_sweep))) | (with_reducible (k_here; (with_reducible show wpAny _ _ (subscriptTail (Expr.Name _ _) (Expr.Slice _ _ none _) (Value.str _ _) _) _ _ _); (with_reducible rename Fr _ _ _ _ => F'); (with_reducible rename News _ _ _ _ => N'); (first | (refine slice_strN_sn (hsz := ?hsz) (s := ⟨_, _, _, _, _⟩) F' N' ?_) | (refine slice_strN_ns (hsz := ?hsz) (s := ⟨_, _, _, _, _⟩) F' N' ?_) | (refine slice_strN_nn (hsz := ?hsz) (s := ⟨_, _, _, _, _⟩) F' N' ?_)); (case hsz => rw [sizeLine_eq]; omega); intro _ _ _ _ _; (try rw [slice_nn]); (try k_sweep); (try dsimp only))) | (with_reducible (k_here; (with_reducible show wpAny _ _ (storeName _ _ _) _ _ _); k_dflt ((first | refine' stI ?F ?N ?_ ?a ?b | refine' stS ?F ?N ?_ ?a ?b | refine' stA ?F ?N ?_ ?a ?b); (case F => k_asm); (case N => k_asm); (case a => exact Eq.refl ScopeKind.function); (case b => exact Eq.refl (some NameKind.local)); k_whole; intro hqi tqi uqi Fqi Nqi; (try k_sweep)))) | (with_reducible (k_here; (with_reducible show wpAny _ _ (eval (Expr.Name _ _) _) _ _ _); k_dflt (refine' nameX_L ?F ?v ?_ ?a ?b ?d; (case F => k_asm); (case a => exact Eq.refl ScopeKind.function); (case b => exact Eq.refl (some NameKind.local)); (case d => exact Eq.refl false); (case v => exact Eq.refl (some _)); k_whole)))); (all_goals (try dsimp only))) | (walk1; (all_goals (try dsimp only))) | (dsimp only; walk1))))
        refine mark_in ?_
        with_reducible rename News _ _ _ _ => kN
        with_reducible rename Fr _ _ _ _ => kF
        rename IsRange _ _ _ _ _ _ _ _ => kR
        have kN2 := news_swap kN
        have e0 : r' = (levOut a2 b2 (0, rangeInts 2 2 a2.length) j).1 := by rw [hrun]
        have e1 : ns = (levOut a2 b2 (0, rangeInts 2 2 a2.length) j).2 := by rw [hrun]
        k_dflt (refine' lev_inner (a := a2) (bc := Txt.item b2 (j : Int)) kF kN2 rfl kR (by omega) hns hL rfl rfl rfl ?iturn rfl ?idone)
        case idone =>
          intro vs2 ns2 e2 d2 td2 r2 tr2 mn2 tm2 ui2 u2 h2 tk2 hns2 hL2 hrun2 F2 N2
          clear kN kN2 kF kR
          have em : levMin a2 b2 (0, rangeInts 2 2 a2.length) j = mn2 := by unfold levMin; rw [← e1, hrun2]
          (repeat' (first | (k_unfold; (try dsimp only)) | ((first | (with_reducible (k_here; (with_reducible show wpAny _ _ (call (Value.ref 145) [Value.str _ _, Value.str _ _]) _ _ _); k_dflt ( refine' (sub_c _ _ _ _).use ?k1 ?k2 ?k3 ?k4 ?k5 ?kK ?kp ?kd ?ku ?_; (case k1 => k_asm); (case k2 => k_asm); (case k3 => k_asm); (case k4 => k_asm); (case k5 => k_asm); (case kK => first | exact rfl | assumption); (case kp => ((try dsimp only); omega)); (case kd => exact Nat.le_of_ble_eq_true rfl); (case ku => exact Nat.le_of_ble_eq_true rfl); intro t9qi h9qi tk9qi g9qi F9qi N9qi; (obtain ⟨c1qi, c2qi⟩ := g9qi); (try dsimp only); (try k_fold)))) | (with_reducible (k_here; (with_reducible show wpAny _ _ (call (Value.type _) [Value.ref _]) _ _ _); (rename IsRange _ _ _ _ _ _ _ _ => rgX); (with_unfolding_all refine' my_list_range ?k0 ?k1 ?k2 ?k3 ?k4 ?k5 ?k6 ?_; (case k0 => rfl); (case k1 => k_asm); (case k2 => k_asm); (case k3 => exact rgX); (case k4 => exact small_step2 _ (by assumption)); (case k5 => exact size_step2 _ (by assumption)); (case k6 => omega); k_whole); intro Dqi vsqi cqi hqi tkqi Fqi Nqi l1qi hIqi; (try k_lt l1qi); (try k_sweep))) | (with_reducible (k_here; (with_reducible show wpAny _ _ (subscriptTail (Expr.Name _ _) (Expr.Slice _ _ none _) (Value.str _ _) _) _ _ _); (with_reducible rename Fr _ _ _ _ => F'); (with_reducible rename News _ _ _ _ => N'); (first | (refine slice_strN_sn (hsz := ?hsz) (s := ⟨_, _, _, _, _⟩) F' N' ?_) | (refine slice_strN_ns (hsz := ?hsz) (s := ⟨_, _, _, _, _⟩) F' N' ?_) | (refine slice_strN_nn (hsz := ?hsz) (s := ⟨_, _, _, _, _⟩) F' N' ?_)); (case hsz => rw [sizeLine_eq]; omega); intro _ _ _ _ _; (try rw [slice_nn]); (try k_sweep); (try dsimp only))) | (with_reducible (k_here; (with_reducible show wpAny _ _ (storeName _ _ _) _ _ _); k_dflt ((first | refine' stI ?F ?N ?_ ?a ?b | refine' stS ?F ?N ?_ ?a ?b | refine' stA ?F ?N ?_ ?a ?b); (case F => k_asm); (case N => k_asm); (case a => exact Eq.refl ScopeKind.function); (case b => exact Eq.refl (some NameKind.local)); k_whole; intro hqi tqi uqi Fqi Nqi; (try k_sweep)))) | (with_reducible (k_here; (with_reducible show wpAny _ _ (eval (Expr.Name _ _) _) _ _ _); k_dflt (refine' nameX_L ?F ?v ?_ ?a ?b ?d; (case F => k_asm); (case a => exact Eq.refl ScopeKind.function); (case b => exact Eq.refl (some NameKind.local)); (case d => exact Eq.refl false); (case v => exact Eq.refl (some _)); k_whole)))); (all_goals (try dsimp only))) | (walk1; (all_goals (try dsimp only))) | (dsimp only; walk1)))
          all_goals first
            | (refine txpost_ret ?_
               (repeat' (first | (k_unfold; (try dsimp only)) | ((first | (with_reducible (k_here; (with_reducible show wpAny _ _ (call (Value.ref 145) [Value.str _ _, Value.str _ _]) _ _ _); k_dflt ( refine' (sub_c _ _ _ _).use ?k1 ?k2 ?k3 ?k4 ?k5 ?kK ?kp ?kd ?ku ?_; (case k1 => k_asm); (case k2 => k_asm); (case k3 => k_asm); (case k4 => k_asm); (case k5 => k_asm); (case kK => first | exact rfl | assumption); (case kp => ((try dsimp only); omega)); (case kd => exact Nat.le_of_ble_eq_true rfl); (case ku => exact Nat.le_of_ble_eq_true rfl); intro t9qi h9qi tk9qi g9qi F9qi N9qi; (obtain ⟨c1qi, c2qi⟩ := g9qi); (try dsimp only); (try k_fold)))) | (with_reducible (k_here; (with_reducible show wpAny _ _ (call (Value.type _) [Value.ref _]) _ _ _); (rename IsRange _ _ _ _ _ _ _ _ => rgX); (with_unfolding_all refine' my_list_range ?k0 ?k1 ?k2 ?k3 ?k4 ?k5 ?k6 ?_; (case k0 => rfl); (case k1 => k_asm); (case k2 => k_asm); (case k3 => exact rgX); (case k4 => exact small_step2 _ (by assumption)); (case k5 => exact size_step2 _ (by assumption)); (case k6 => omega); k_whole); intro Dqi vsqi cqi hqi tkqi Fqi Nqi l1qi hIqi; (try k_lt l1qi); (try k_sweep))) | (with_reducible (k_here; (with_reducible show wpAny _ _ (subscriptTail (Expr.Name _ _) (Expr.Slice _ _ none _) (Value.str _ _) _) _ _ _); (with_reducible rename Fr _ _ _ _ => F'); (with_reducible rename News _ _ _ _ => N'); (first | (refine slice_strN_sn (hsz := ?hsz) (s := ⟨_, _, _, _, _⟩) F' N' ?_) | (refine slice_strN_ns (hsz := ?hsz) (s := ⟨_, _, _, _, _⟩) F' N' ?_) | (refine slice_strN_nn (hsz := ?hsz) (s := ⟨_, _, _, _, _⟩) F' N' ?_)); (case hsz => rw [sizeLine_eq]; omega); intro _ _ _ _ _; (try rw [slice_nn]); (try k_sweep); (try dsimp only))) | (with_reducible (k_here; (with_reducible show wpAny _ _ (storeName _ _ _) _ _ _); k_dflt ((first | refine' stI ?F ?N ?_ ?a ?b | refine' stS ?F ?N ?_ ?a ?b | refine' stA ?F ?N ?_ ?a ?b); (case F => k_asm); (case N => k_asm); (case a => exact Eq.refl ScopeKind.function); (case b => exact Eq.refl (some NameKind.local)); k_whole; intro hqi tqi uqi Fqi Nqi; (try k_sweep)))) | (with_reducible (k_here; (with_reducible show wpAny _ _ (eval (Expr.Name _ _) _) _ _ _); k_dflt (refine' nameX_L ?F ?v ?_ ?a ?b ?d; (case F => k_asm); (case a => exact Eq.refl ScopeKind.function); (case b => exact Eq.refl (some NameKind.local)); (case d => exact Eq.refl false); (case v => exact Eq.refl (some _)); k_whole)))); (all_goals (try dsimp only))) | (walk1; (all_goals (try dsimp only))) | (dsimp only; walk1)))
               refine cb_retI (fun t h' tk' => hret t h' tk' trivial) ?_ (by k_asm) (by first | k_asm | (refine' cb_drop ?cbN ?cbS; (case cbN => assumption); (case cbS => kcj_all)))
               have p8 := pX.m j (by rw [← hb2]; exact hj)
               rw [← ha2, ← hb2, em] at p8
               rcases p8 with p8 | p8
               · exfalso; omega
               · exact p8)
            | skip
          all_goals (
            dsimp only [OvPost, TxPost]
            (with_reducible rename News _ _ _ _ => kN9)
            (with_reducible rename Fr _ _ _ _ => kF9)
            (with_unfolding_all refine' TxEnd.mk' ⟨_, _, _, _⟩ kF9 kN9 ?mxI (List.forall_mem_cons.mpr ⟨.head _, fun p hp => .tail _ (.tail _ hp)⟩) ?mxN ?mxK ?mxR ?mxP)
            (case mxK => kst_all)
            (case mxI => k_mem)
            (case mxN => exact List.forall_mem_cons.mpr ⟨hne, hrI⟩)
            (case mxR => (intro z h1 h2 h3; (try simp only [List.forall_mem_cons, List.not_mem_nil, false_implies, implies_true, and_true, ne_eq] at h2); (repeat (first | with_reducible exact rfl | ((first | refine upI_ne ?hne ?_ | refine upS_ne ?hne ?_ | refine upA_ne ?hne ?_ | refine ite_ne ?hne ?_); (case hne => first | with_reducible exact h1 | with_reducible exact h2 | with_reducible exact h2.1 | with_reducible exact h2.2.1 | with_reducible exact h2.2.2.1 | with_reducible exact h2.2.2.2.1 | with_reducible exact h2.2.2.2.2.1 | with_reducible exact h2.2.2.2.2.2.1 | with_reducible exact h2.2.2.2.2.2.2.1 | with_reducible exact h2.2.2.2.2.2.2.2.1 | with_reducible exact h2.2 | with_reducible exact h2.2.2 | with_reducible exact h2.2.2.2 | with_reducible exact h2.2.2.2.2 | with_reducible exact h2.2.2.2.2.2 | with_reducible exact h2.2.2.2.2.2.2 | with_reducible exact h2.2.2.2.2.2.2.2 | with_reducible exact h2.2.2.2.2.2.2.2.2 | exact ctn_ne h3 (by decide +kernel))) | refine ite_ctn h3 ?_ | refine ite_ctn (ctn_sub h3 (by decide +kernel)) ?_)); done))
            (case mxP => exact ⟨_, hns2, by rw [levOut_succ]; unfold levOStep; rw [← e1, hrun2]⟩))
        case iturn =>
          clear kN kN2 kF kR
          intro vs2 ns2 e2 d2 td2 r2 tr2 mn2 tm2 i2 t2 u2 h2 tk2 I2 oI2 hi2 hns2 hL2 hrun2 hne2 hrI2 F2 N2
          (repeat' (first | (k_unfold; (try dsimp only)) | ((first | (with_reducible (k_here; (with_reducible show wpAny _ _ (call (Value.ref 145) [Value.str _ _, Value.str _ _]) _ _ _); k_dflt ( refine' (sub_c _ _ _ _).use ?k1 ?k2 ?k3 ?k4 ?k5 ?kK ?kp ?kd ?ku ?_; (case k1 => k_asm); (case k2 => k_asm); (case k3 => k_asm); (case k4 => k_asm); (case k5 => k_asm); (case kK => first | exact rfl | assumption); (case kp => ((try dsimp only); omega)); (case kd => exact Nat.le_of_ble_eq_true rfl); (case ku => exact Nat.le_of_ble_eq_true rfl); intro t9qi h9qi tk9qi g9qi F9qi N9qi; (obtain ⟨c1qi, c2qi⟩ := g9qi); (try dsimp only); (try k_fold)))) | (with_reducible (k_here; (with_reducible show wpAny _ _ (call (Value.type _) [Value.ref _]) _ _ _); (rename IsRange _ _ _ _ _ _ _ _ => rgX); (with_unfolding_all refine' my_list_range ?k0 ?k1 ?k2 ?k3 ?k4 ?k5 ?k6 ?_; (case k0 => rfl); (case k1 => k_asm); (case k2 => k_asm); (case k3 => exact rgX); (case k4 => exact small_step2 _ (by assumption)); (case k5 => exact size_step2 _ (by assumption)); (case k6 => omega); k_whole); intro Dqi vsqi cqi hqi tkqi Fqi Nqi l1qi hIqi; (try k_lt l1qi); (try k_sweep))) | (with_reducible (k_here; (with_reducible show wpAny _ _ (subscriptTail (Expr.Name _ _) (Expr.Slice _ _ none _) (Value.str _ _) _) _ _ _); (with_reducible rename Fr _ _ _ _ => F'); (with_reducible rename News _ _ _ _ => N'); (first | (refine slice_strN_sn (hsz := ?hsz) (s := ⟨_, _, _, _, _⟩) F' N' ?_) | (refine slice_strN_ns (hsz := ?hsz) (s := ⟨_, _, _, _, _⟩) F' N' ?_) | (refine slice_strN_nn (hsz := ?hsz) (s := ⟨_, _, _, _, _⟩) F' N' ?_)); (case hsz => rw [sizeLine_eq]; omega); intro _ _ _ _ _; (try rw [slice_nn]); (try k_sweep); (try dsimp only))) | (with_reducible (k_here; (with_reducible show wpAny _ _ (storeName _ _ _) _ _ _); k_dflt ((first | refine' stI ?F ?N ?_ ?a ?b | refine' stS ?F ?N ?_ ?a ?b | refine' stA ?F ?N ?_ ?a ?b); (case F => k_asm); (case N => k_asm); (case a => exact Eq.refl ScopeKind.function); (case b => exact Eq.refl (some NameKind.local)); k_whole; intro hqi tqi uqi Fqi Nqi; (try k_sweep)))) | (with_reducible (k_here; (with_reducible show wpAny _ _ (eval (Expr.Name _ _) _) _ _ _); k_dflt (refine' nameX_L ?F ?v ?_ ?a ?b ?d; (case F => k_asm); (case a => exact Eq.refl ScopeKind.function); (case b => exact Eq.refl (some NameKind.local)); (case d => exact Eq.refl false); (case v => exact Eq.refl (some _)); k_whole)))); (all_goals (try dsimp only))) | (walk1; (all_goals (try dsimp only))) | (dsimp only; walk1)))
          all_goals (
            dsimp only [LvPost, TxPost]
            (with_reducible rename News _ _ _ _ => kN9)
            (with_reducible rename Fr _ _ _ _ => kF9)
            (with_unfolding_all refine' TxEnd.mk' ⟨_, _, _, _, _, _, _, _⟩ kF9 kN9 ?mxI (fun p hp => List.mem_cons_of_mem _ hp) ?mxN ?mxK ?mxR ?mxP)
            (case mxK => kst_all)
            (case mxI => k_mem)
            (case mxN => exact List.forall_mem_cons.mpr ⟨hne2, hrI2⟩)
            (case mxR => (intro z h1 h2 h3; (try simp only [List.forall_mem_cons, List.not_mem_nil, false_implies, implies_true, and_true, ne_eq] at h2); (repeat (first | with_reducible exact rfl | ((first | refine upI_ne ?hne ?_ | refine upS_ne ?hne ?_ | refine upA_ne ?hne ?_ | refine ite_ne ?hne ?_); (case hne => first | with_reducible exact h1 | with_reducible exact h2 | with_reducible exact h2.1 | with_reducible exact h2.2.1 | with_reducible exact h2.2.2.1 | with_reducible exact h2.2.2.2.1 | with_reducible exact h2.2.2.2.2.1 | with_reducible exact h2.2.2.2.2.2.1 | with_reducible exact h2.2.2.2.2.2.2.1 | with_reducible exact h2.2.2.2.2.2.2.2.1 | with_reducible exact h2.2 | with_reducible exact h2.2.2 | with_reducible exact h2.2.2.2 | with_reducible exact h2.2.2.2.2 | with_reducible exact h2.2.2.2.2.2 | with_reducible exact h2.2.2.2.2.2.2 | with_reducible exact h2.2.2.2.2.2.2.2 | with_reducible exact h2.2.2.2.2.2.2.2.2 | exact ctn_ne h3 (by decide +kernel))) | refine ite_ctn h3 ?_ | refine ite_ctn (ctn_sub h3 (by decide +kernel)) ?_)); done))
            (case mxP => exact ⟨_, (by assumption), by rw [levRow_succ, hrun2]; first | exact levStep_lt (by assumption) | exact levStep_ge (by assumption)⟩))
end
section
open PySem PySem.W PyProof.Rows PyProof.V PySem.Spec PySem.Calls
set_option Elab.async false
set_option maxRecDepth 100000
set_option maxHeartbeats 8000000
section
variable {prog : Program} {w : World} {A : Around} {E : Value → Shared → Prop} {s : Shared} {env : Env} {h₀ : Heap} {L : Addr} {Q : Flow → Shared → Prop} {news : List (Addr × Obj)}
noncomputable def CutInt (h₀ : Heap) (L : Addr) (m₀ : Str → Option Value) (news : List (Addr × Obj)) (y : Str) (X : Int) (s : Shared) (f : Flow) (s₂ : Shared) : Prop :=
  f = .next ∧ ∃ (t : Tok) (h : Heap) (tk : Nat) (m : Str → Option Value), s₂ = { s with heap := h, toks := tk } ∧ Fr h₀ L h m ∧ News h₀ L h news ∧ m y = some (.int X t) ∧ (∀ x, x ≠ y → m x = m₀ x)
theorem CutInt.mk' {y : Str} {X a : Int} {m₀ : Str → Option Value} {t : Tok} {h : Heap} {tk : Nat} {m : Str → Option Value} (F : Fr h₀ L h m) (N : News h₀ L h news) (hy : m y = some (.int a t)) (e : a = X) (hr : ∀ x, x ≠ y → m x = m₀ x) :
    CutInt h₀ L m₀ news y X s .next { s with heap := h, toks := tk } := ⟨rfl, t, h, tk, m, rfl, F, N, e ▸ hy, hr⟩
theorem cut_int {st : Stmt} {m₀ : Str → Option Value} (y : Str) (X : Int) (_F : Fr h₀ L s.heap m₀) (_N : News h₀ L s.heap news)
    (h1 : wpAny (model prog w) A (exec st env) (CutInt h₀ L m₀ news y X s) E s)
    (h2 : ∀ (t : Tok) (h : Heap) (tk : Nat), Fr h₀ L h (fun x => if x = y then some (.int X t) else m₀ x) → News h₀ L h news → Q .next { s with heap := h, toks := tk }) :
    wpAny (model prog w) A (exec st env) Q E s := by
  refine wpAny_mono h1 (fun f s₂ q => ?_) fun _ _ x => x
  obtain ⟨rfl, t, h, tk, m, rfl, F', N', hy, hr⟩ := q
  have e : m = fun x => if x = y then some (.int X t) else m₀ x := by
    funext x
    by_cases h1 : x = y
    · rw [if_pos h1, h1, hy]
    · rw [if_neg h1, hr x h1]
  rw [e] at F'
  exact h2 t h tk F' N'
end
/-- what a call of _levenshtein_distance asks -/
noncomputable def LevOk (a b : Str) (k X : Int) : Prop := a.length ≤ 8 ∧ b.length = a.length ∧ 3 ≤ k ∧ k ≤ 5 ∧ (a == b) = false ∧ 1 ≤ (levA a b).length ∧ LevX a b k X
/-- is the beginning crooked at the place -/
noncomputable def midF (x : Str) (p : Int) : Bool := (crk x x.length p).getD 0 0 == 1
noncomputable def apF (x : Str) (p : Int) : Int := if (midF x p && Txt.item x 0 == Str.ofString "\t" && Txt.item x p == Str.ofString " ") = true then 4 else 2
end
section
open PySem PySem.W PyProof.Rows PyProof.V PySem.Spec PySem.Calls
set_option Elab.async false
set_option maxRecDepth 100000
set_option maxHeartbeats 8000000
theorem ints_item_eq {prog : Program} {w : World} {A : Around} {E : Value → Shared → Prop} {s : Shared} {value slice : PySem.Expr} {l : Addr} {vs : List Value} {ns : List Int} {k x : Int} {u : Tok} {Q : Value → Shared → Prop}
    (hl : s.heap.IsList l vs.toArray) (hS : IntsAre vs ns) (h0 : 0 ≤ k) (hk : k < ns.length) (hx : ns.length ≤ 1000) (e : ns.getD k.toNat 0 = x) (h : ∀ t, Q (.int x t) s)
    (hs : subscripted slice false (.ref l) (.int k u) = operate [.ref l, .int k u] (getItem (.ref l) (.int k u)) := by with_unfolding_all rfl) :
    wpAny (model prog w) A (subscriptTail value slice (.ref l) (.int k u)) Q E s := by
  have e0 := hS.length
  obtain ⟨t, ht⟩ := hS.get k.toNat x (by rw [← e, List.getD_eq_getElem?_getD, List.getElem?_eq_getElem (by omega)]; rfl)
  exact tail_any hl.typeIs slot_list_getitem.lookup (wpAny_getItem_list hl h0 (by omega) (by simpa using ht) (h t)) hs
theorem norm_eq {prog : Program} {w : World} {A : Around} {E : Value → Shared → Prop} {s : Shared} {h₀ : Heap} {L : Addr} {news : List (Addr × Obj)} {Q : Value → Shared → Prop} {a b c d : Addr} {vs zs : List Value} {ns ms : List Int} {x y : Int} {t u : Tok}
    (N : News h₀ L s.heap news) (ha : (a, ({ cls := .type "tuple", data := .seq #[.ref c, .int x t] } : Obj)) ∈ news) (hb : (b, ({ cls := .type "tuple", data := .seq #[.ref d, .int y u] } : Obj)) ∈ news)
    (hc : (c, ({ cls := .type "tuple", data := .seq vs.toArray } : Obj)) ∈ news) (hd : (d, ({ cls := .type "tuple", data := .seq zs.toArray } : Obj)) ∈ news)
    (hi : IntsAre vs ns) (hj : IntsAre zs ms) (hu : A.units + 64 < cLine) (h : Q (.bool (decide (ns = ms ∧ x = y))) s) :
    wpAny (model prog w) A (compareOp .Eq (.ref a) (.ref b)) Q E s := by
  have r1 : Reads s.heap (.ref a) (.tuple [.tuple (ns.map .int), .int x]) [] :=
    reads_tuple_at (N _ ha).1 rfl rfl (.cons (as := []) (reads_tuple_at (N _ hc).1 rfl rfl (by simpa using readsAll_of_ints hi)) (.cons (as := []) (Reads.int _ _) .nil))
  have r2 : Reads s.heap (.ref b) (.tuple [.tuple (ms.map .int), .int y]) [] :=
    reads_tuple_at (N _ hb).1 rfl rfl (.cons (as := []) (reads_tuple_at (N _ hd).1 rfl rfl (by simpa using readsAll_of_ints hj)) (.cons (as := []) (Reads.int _ _) .nil))
  have sh : ∀ (l : List Int) (z : Int), SeqAt.shaped (.tuple [.tuple (l.map .int), .int z]) = true := fun l z => by
    simp [SeqAt.shaped, PyData.canLay0, PyData.canLayAll0, PyData.depth, PyData.depthAll, ke_canLayAll0, ke_depthAll]
  refine eq_dataH r1 r2 (sh _ _) (sh _ _) hu ?_
  have e : PyData.eqv (.tuple [.tuple (ns.map .int), .int x]) (.tuple [.tuple (ms.map .int), .int y]) = decide (ns = ms ∧ x = y) := by
    simp only [PyData.eqv, PyData.eqvAll, ked_eqvAll, Bool.and_true]
    by_cases h1 : ns = ms <;> by_cases h2 : x = y <;> simp [h1, h2]
  rw [e]
  exact h
end
section
open PySem PySem.W PyProof.Rows
set_option Elab.async false
set_option maxRecDepth 100000
set_option maxHeartbeats 8000000
local macro_rules | `(tactic| k_mem) => `(tactic| ((repeat (first | with_reducible assumption | with_reducible refine List.mem_cons_of_mem _ ?_)); done))
local macro_rules | `(tactic| is_list) => `(tactic| exact News.isList (by k_asm) (by (repeat (first | assumption | with_reducible refine List.mem_cons_of_mem _ ?_)); done))
noncomputable abbrev st2c : List Str := [Str.ofString "middle", Str.ofString "apart"]
noncomputable abbrev mp2c (p spare more : Int) (behind : Str) (D2 : Addr) (tp tb tq1 tq2 : Tok) (m₁ : Str → Option Value) (y : Str) : Option Value := if y = Str.ofString "place" then some (.int p tp) else if y = Str.ofString "behind" then some (.str behind tb) else if y = Str.ofString "crooked" then some (.ref D2) else if y = Str.ofString "spare" then some (.int spare tq1) else if y = Str.ofString "more" then some (.int more tq2) else m₁ y
theorem turn2c {w : World} {loose : List Str} {mean : ExcName → Option Value} {mg mb : Str → Option Value} {base : Heap} {L fa : Addr} {cd : Value} {s : Shared} {P : Flow → Shared → Prop} {E : Value → Shared → Prop} {m₁ : Str → Option Value} {ld I D2 c1 c2 : Addr} {w1 w2 w3 oI k1 k2 : Obj} {vs zs : List Value} {e : Nat} {tl tp tb tq1 tq2 : Tok} {p spare more mc ap : Int} {lead behind : Str} {crs : List Int}
    (K : Below callerA base [] base) (X : (hd.heap_39 w.params).In base) (T : Top topProg loose mean mg mb base)
    (F : Fr base L s.heap (fun y => if y = Str.ofString "place" then some (.int p tp) else if y = Str.ofString "behind" then some (.str behind tb) else if y = Str.ofString "crooked" then some (.ref D2) else if y = Str.ofString "spare" then some (.int spare tq1) else if y = Str.ofString "more" then some (.int more tq2) else m₁ y))
    (N : News base L s.heap [(D2, LCg.lst zs), (I, oI), (ld, listOf vs.toArray e), (53, tabObj #[rawInt (71 : Nat), rawInt (4 : Nat), .ref c1]), (46, tabObj #[rawInt (56 : Nat), rawInt (4 : Nat), .ref c2]), (L + 1 + 1 + 1, w3), (L + 1 + 1, w2), (L + 1, w1), (c1, k1), (c2, k2)])
    (d3 : w3.data = .cell (some (.str lead tl))) (hz : IntsAre zs crs) (hz1 : 1 ≤ crs.length) (hz2 : crs.length ≤ 1000) (hmc : crs.getD ((0 : Int).toNat) 0 = mc)
    (hl1 : lead.length ≤ 6) (hl2 : behind.length ≤ 6) (hB1 : Blank lead) (hB2 : Blank behind) (hp1 : 0 ≤ p) (hp2 : p < lead.length) (hs1 : 0 ≤ spare) (hs2 : spare ≤ 2)
    (hv1 : LevOk lead behind (3 + spare) 4) (hv2 : LevOk (lettersF behind) (lettersF lead) (3 + spare) ap)
    (hap : ap = if mc = 1 ∧ Txt.item lead 0 = Str.ofString "\t" ∧ Txt.item lead p = Str.ofString " " then 4 else 2)
    (hQ : ∀ (h' : Heap) (tk' : Nat) (m' : Str → Option Value), Fr base L h' m' → m' (Str.ofString "middle") = some (.bool (mc == 1)) → (∀ z, st2c.contains z = false → m' z = mp2c p spare more behind D2 tp tb tq1 tq2 m₁ z) →
      News base L h' [(D2, LCg.lst zs), (I, oI), (ld, listOf vs.toArray e), (53, tabObj #[rawInt (71 : Nat), rawInt (4 : Nat), .ref c1]), (46, tabObj #[rawInt (56 : Nat), rawInt (4 : Nat), .ref c2]), (L + 1 + 1 + 1, w3), (L + 1 + 1, w2), (L + 1, w1), (c1, k1), (c2, k2)] →
      wpAny (model PySem.Challenge.rw_tv0051_01.row.prog w) (callerA.deeper (envOfC (Str.ofString "law") lawScope L fa cd)) (execs ((forBody 15).drop 17) (envOfC (Str.ofString "law") lawScope L fa cd)) P E { s with heap := h', toks := tk' }) :
    wpAny (model PySem.Challenge.rw_tv0051_01.row.prog w) (callerA.deeper (envOfC (Str.ofString "law") lawScope L fa cd)) (execs ((forBody 15).drop 12) (envOfC (Str.ofString "law") lawScope L fa cd)) P E s := by
  conv in List.drop 12 (forBody 15) => whnf
  conv in (occs := *) lawScope => all_goals whnf
  revert X
  k_fill
  intro X
  (repeat' (first | (k_unfold; (try dsimp only)) | ((first | (with_reducible (k_here; (with_reducible show wpAny _ _ (execs (Stmt.If (Expr.UnaryOp _ _ _) _ _ _ :: _) _) _ _ _); refine mark_of ?_)) | (with_reducible (k_here; (with_reducible show wpAny _ _ (exec (Stmt.If (Expr.BoolOp _ _ _) _ _ _) _) _ _ _); refine mark_of ?_)) | (with_reducible (k_here; (with_reducible show wpAny _ _ (call (Value.ref 183) _) _ _ _); refine mark_of ?_)) | (with_reducible (k_here; (with_reducible show wpAny _ _ (call (Value.ref 152) _) _ _ _); refine mark_of ?_)) | (with_reducible (k_here; (with_reducible show wpAny _ _ (subscriptTail _ _ (Value.ref _) (Value.int _ _)) _ _ _); (with_unfolding_all refine' ints_item_eq ?k1 ?k2 ?k3 ?k4 ?k5 ?kE ?_ ?k6; (case k1 => exact News.isList (by k_asm) (by k_mem)); (case k2 => assumption); (case k3 => decide); (case k4 => omega); (case k5 => omega); (case kE => assumption); (case k6 => with_unfolding_all rfl); k_whole); intro t9qi)) | (with_reducible (k_here; (with_reducible show wpAny _ _ (storeName _ _ _) _ _ _); k_dflt ((first | refine' stI ?F ?N ?_ ?a ?b | refine' stS ?F ?N ?_ ?a ?b | refine' stA ?F ?N ?_ ?a ?b); (case F => k_asm); (case N => k_asm); (case a => exact Eq.refl ScopeKind.function); (case b => exact Eq.refl (some NameKind.local)); k_whole; intro hqi tqi uqi Fqi Nqi; (try k_sweep)))) | (with_reducible (k_here; (with_reducible show wpAny _ _ (eval (Expr.Name _ _) _) _ _ _); k_dflt (refine' nameX_L ?F ?v ?_ ?a ?b ?d; (case F => k_asm); (case a => exact Eq.refl ScopeKind.function); (case b => exact Eq.refl (some NameKind.local)); (case d => exact Eq.refl false); (case v => exact Eq.refl (some _)); k_whole)))); (all_goals (try dsimp only))) | (walk1; (all_goals (try dsimp only))) | (dsimp only; walk1)))
  refine mark_in ?_
  k_dflt (refine' (lev_c lead behind (3 + spare) 4 _ _ _).use ?k1 ?k2 ?k3 ?k4 ?k5 ?kK ?kp ?kd ?ku ?_; (case k1 => k_asm); (case k2 => k_asm); (case k3 => k_asm); (case k4 => k_asm); (case k5 => k_asm); (case kK => first | exact rfl | assumption))
  case kp => exact hv1
  case kd => exact Nat.le_of_ble_eq_true rfl
  case ku => exact Nat.le_of_ble_eq_true rfl
  intro t9 h9 tk9 _ F9 N9
  try dsimp only
  (repeat' (first | (k_unfold; (try dsimp only)) | ((first | (with_reducible (k_here; (with_reducible show wpAny _ _ (execs (Stmt.If (Expr.UnaryOp _ _ _) _ _ _ :: _) _) _ _ _); refine mark_of ?_)) | (with_reducible (k_here; (with_reducible show wpAny _ _ (exec (Stmt.If (Expr.BoolOp _ _ _) _ _ _) _) _ _ _); refine mark_of ?_)) | (with_reducible (k_here; (with_reducible show wpAny _ _ (call (Value.ref 183) _) _ _ _); refine mark_of ?_)) | (with_reducible (k_here; (with_reducible show wpAny _ _ (call (Value.ref 152) _) _ _ _); refine mark_of ?_)) | (with_reducible (k_here; (with_reducible show wpAny _ _ (subscriptTail _ _ (Value.ref _) (Value.int _ _)) _ _ _); (with_unfolding_all refine' ints_item_eq ?k1 ?k2 ?k3 ?k4 ?k5 ?kE ?_ ?k6; (case k1 => exact News.isList (by k_asm) (by k_mem)); (case k2 => assumption); (case k3 => decide); (case k4 => omega); (case k5 => omega); (case kE => assumption); (case k6 => with_unfolding_all rfl); k_whole); intro t9qi)) | (with_reducible (k_here; (with_reducible show wpAny _ _ (storeName _ _ _) _ _ _); k_dflt ((first | refine' stI ?F ?N ?_ ?a ?b | refine' stS ?F ?N ?_ ?a ?b | refine' stA ?F ?N ?_ ?a ?b); (case F => k_asm); (case N => k_asm); (case a => exact Eq.refl ScopeKind.function); (case b => exact Eq.refl (some NameKind.local)); k_whole; intro hqi tqi uqi Fqi Nqi; (try k_sweep)))) | (with_reducible (k_here; (with_reducible show wpAny _ _ (eval (Expr.Name _ _) _) _ _ _); k_dflt (refine' nameX_L ?F ?v ?_ ?a ?b ?d; (case F => k_asm); (case a => exact Eq.refl ScopeKind.function); (case b => exact Eq.refl (some NameKind.local)); (case d => exact Eq.refl false); (case v => exact Eq.refl (some _)); k_whole)))); (all_goals (try dsimp only))) | (walk1; (all_goals (try dsimp only))) | (dsimp only; walk1)))
  refine mark_in ?_
  (with_reducible rename News _ _ _ _ => kN; with_reducible rename Fr _ _ _ _ => kF)
  k_dflt (refine' cut_int (Str.ofString "apart") ap kF kN ?cutA ?nextA)
  case cutA =>
    refine wpAny_If ?_
    (repeat' (first | (k_unfold; (try dsimp only)) | ((first | (with_reducible (k_here; (with_reducible show wpAny _ _ (execs (Stmt.If (Expr.UnaryOp _ _ _) _ _ _ :: _) _) _ _ _); refine mark_of ?_)) | (with_reducible (k_here; (with_reducible show wpAny _ _ (exec (Stmt.If (Expr.BoolOp _ _ _) _ _ _) _) _ _ _); refine mark_of ?_)) | (with_reducible (k_here; (with_reducible show wpAny _ _ (call (Value.ref 183) _) _ _ _); refine mark_of ?_)) | (with_reducible (k_here; (with_reducible show wpAny _ _ (call (Value.ref 152) _) _ _ _); refine mark_of ?_)) | (with_reducible (k_here; (with_reducible show wpAny _ _ (subscriptTail _ _ (Value.ref _) (Value.int _ _)) _ _ _); (with_unfolding_all refine' ints_item_eq ?k1 ?k2 ?k3 ?k4 ?k5 ?kE ?_ ?k6; (case k1 => exact News.isList (by k_asm) (by k_mem)); (case k2 => assumption); (case k3 => decide); (case k4 => omega); (case k5 => omega); (case kE => assumption); (case k6 => with_unfolding_all rfl); k_whole); intro t9qi)) | (with_reducible (k_here; (with_reducible show wpAny _ _ (storeName _ _ _) _ _ _); k_dflt ((first | refine' stI ?F ?N ?_ ?a ?b | refine' stS ?F ?N ?_ ?a ?b | refine' stA ?F ?N ?_ ?a ?b); (case F => k_asm); (case N => k_asm); (case a => exact Eq.refl ScopeKind.function); (case b => exact Eq.refl (some NameKind.local)); k_whole; intro hqi tqi uqi Fqi Nqi; (try k_sweep)))) | (with_reducible (k_here; (with_reducible show wpAny _ _ (eval (Expr.Name _ _) _) _ _ _); k_dflt (refine' nameX_L ?F ?v ?_ ?a ?b ?d; (case F => k_asm); (case a => exact Eq.refl ScopeKind.function); (case b => exact Eq.refl (some NameKind.local)); (case d => exact Eq.refl false); (case v => exact Eq.refl (some _)); k_whole)))); (all_goals (try dsimp only))) | (walk1; (all_goals (try dsimp only))) | (dsimp only; walk1)))
    all_goals (
      (with_reducible rename News _ _ _ _ => kN9)
      (with_reducible rename Fr _ _ _ _ => kF9)
      (with_unfolding_all refine' CutInt.mk' kF9 kN9 ?wy ?we ?wr)
      (case wy => with_unfolding_all rfl)
      (case wr => intro x h1; ((repeat (first | with_reducible exact rfl | refine upI_ne (by first | exact h1) ?_ | refine upS_ne (by first | exact h1) ?_ | refine upA_ne (by first | exact h1) ?_ | refine ite_ne (by first | exact h1) ?_ | refine ite_ctn (by assumption) ?_)); done))
      (case we => (rw [hap]; clear hQ kF9 kN9 hv1 hv2 hap; split <;> first | rfl | (exfalso; simp_all; done))))
  case nextA =>
    clear kF kN
    intro t8 h8 tk8 F8 N8
    (repeat' (first | (k_unfold; (try dsimp only)) | ((first | (with_reducible (k_here; (with_reducible show wpAny _ _ (execs (Stmt.If (Expr.UnaryOp _ _ _) _ _ _ :: _) _) _ _ _); refine mark_of ?_)) | (with_reducible (k_here; (with_reducible show wpAny _ _ (exec (Stmt.If (Expr.BoolOp _ _ _) _ _ _) _) _ _ _); refine mark_of ?_)) | (with_reducible (k_here; (with_reducible show wpAny _ _ (call (Value.ref 183) _) _ _ _); refine mark_of ?_)) | (with_reducible (k_here; (with_reducible show wpAny _ _ (call (Value.ref 152) _) _ _ _); refine mark_of ?_)) | (with_reducible (k_here; (with_reducible show wpAny _ _ (subscriptTail _ _ (Value.ref _) (Value.int _ _)) _ _ _); (with_unfolding_all refine' ints_item_eq ?k1 ?k2 ?k3 ?k4 ?k5 ?kE ?_ ?k6; (case k1 => exact News.isList (by k_asm) (by k_mem)); (case k2 => assumption); (case k3 => decide); (case k4 => omega); (case k5 => omega); (case kE => assumption); (case k6 => with_unfolding_all rfl); k_whole); intro t9qi)) | (with_reducible (k_here; (with_reducible show wpAny _ _ (storeName _ _ _) _ _ _); k_dflt ((first | refine' stI ?F ?N ?_ ?a ?b | refine' stS ?F ?N ?_ ?a ?b | refine' stA ?F ?N ?_ ?a ?b); (case F => k_asm); (case N => k_asm); (case a => exact Eq.refl ScopeKind.function); (case b => exact Eq.refl (some NameKind.local)); k_whole; intro hqi tqi uqi Fqi Nqi; (try k_sweep)))) | (with_reducible (k_here; (with_reducible show wpAny _ _ (eval (Expr.Name _ _) _) _ _ _); k_dflt (refine' nameX_L ?F ?v ?_ ?a ?b ?d; (case F => k_asm); (case a => exact Eq.refl ScopeKind.function); (case b => exact Eq.refl (some NameKind.local)); (case d => exact Eq.refl false); (case v => exact Eq.refl (some _)); k_whole)))); (all_goals (try dsimp only))) | (walk1; (all_goals (try dsimp only))) | (dsimp only; walk1)))
    refine mark_in ?_
    k_dflt (refine' (letters_c behind _).use ?k1 ?k2 ?k3 ?k4 ?k5 ?kK ?kp ?kd ?ku ?_; (case k1 => k_asm); (case k2 => k_asm); (case k3 => k_asm); (case k4 => k_asm); (case k5 => k_asm); (case kK => first | exact rfl | assumption))
    case kp => exact ⟨by omega, hB2⟩
    case kd => exact Nat.le_of_ble_eq_true rfl
    case ku => exact Nat.le_of_ble_eq_true rfl
    intro t10 h10 tk10 _ F10 N10
    try dsimp only
    (repeat' (first | (k_unfold; (try dsimp only)) | ((first | (with_reducible (k_here; (with_reducible show wpAny _ _ (execs (Stmt.If (Expr.UnaryOp _ _ _) _ _ _ :: _) _) _ _ _); refine mark_of ?_)) | (with_reducible (k_here; (with_reducible show wpAny _ _ (exec (Stmt.If (Expr.BoolOp _ _ _) _ _ _) _) _ _ _); refine mark_of ?_)) | (with_reducible (k_here; (with_reducible show wpAny _ _ (call (Value.ref 183) _) _ _ _); refine mark_of ?_)) | (with_reducible (k_here; (with_reducible show wpAny _ _ (call (Value.ref 152) _) _ _ _); refine mark_of ?_)) | (with_reducible (k_here; (with_reducible show wpAny _ _ (subscriptTail _ _ (Value.ref _) (Value.int _ _)) _ _ _); (with_unfolding_all refine' ints_item_eq ?k1 ?k2 ?k3 ?k4 ?k5 ?kE ?_ ?k6; (case k1 => exact News.isList (by k_asm) (by k_mem)); (case k2 => assumption); (case k3 => decide); (case k4 => omega); (case k5 => omega); (case kE => assumption); (case k6 => with_unfolding_all rfl); k_whole); intro t9qi)) | (with_reducible (k_here; (with_reducible show wpAny _ _ (storeName _ _ _) _ _ _); k_dflt ((first | refine' stI ?F ?N ?_ ?a ?b | refine' stS ?F ?N ?_ ?a ?b | refine' stA ?F ?N ?_ ?a ?b); (case F => k_asm); (case N => k_asm); (case a => exact Eq.refl ScopeKind.function); (case b => exact Eq.refl (some NameKind.local)); k_whole; intro hqi tqi uqi Fqi Nqi; (try k_sweep)))) | (with_reducible (k_here; (with_reducible show wpAny _ _ (eval (Expr.Name _ _) _) _ _ _); k_dflt (refine' nameX_L ?F ?v ?_ ?a ?b ?d; (case F => k_asm); (case a => exact Eq.refl ScopeKind.function); (case b => exact Eq.refl (some NameKind.local)); (case d => exact Eq.refl false); (case v => exact Eq.refl (some _)); k_whole)))); (all_goals (try dsimp only))) | (walk1; (all_goals (try dsimp only))) | (dsimp only; walk1)))
    refine mark_in ?_
    k_dflt (refine' (letters_c lead _).use ?k1 ?k2 ?k3 ?k4 ?k5 ?kK ?kp ?kd ?ku ?_; (case k1 => k_asm); (case k2 => k_asm); (case k3 => k_asm); (case k4 => k_asm); (case k5 => k_asm); (case kK => first | exact rfl | assumption))
    case kp => exact ⟨by omega, hB1⟩
    case kd => exact Nat.le_of_ble_eq_true rfl
    case ku => exact Nat.le_of_ble_eq_true rfl
    intro t11 h11 tk11 _ F11 N11
    try dsimp only
    (repeat' (first | (k_unfold; (try dsimp only)) | ((first | (with_reducible (k_here; (with_reducible show wpAny _ _ (execs (Stmt.If (Expr.UnaryOp _ _ _) _ _ _ :: _) _) _ _ _); refine mark_of ?_)) | (with_reducible (k_here; (with_reducible show wpAny _ _ (exec (Stmt.If (Expr.BoolOp _ _ _) _ _ _) _) _ _ _); refine mark_of ?_)) | (with_reducible (k_here; (with_reducible show wpAny _ _ (call (Value.ref 183) _) _ _ _); refine mark_of ?_)) | (with_reducible (k_here; (with_reducible show wpAny _ _ (call (Value.ref 152) _) _ _ _); refine mark_of ?_)) | (with_reducible (k_here; (with_reducible show wpAny _ _ (subscriptTail _ _ (Value.ref _) (Value.int _ _)) _ _ _); (with_unfolding_all refine' ints_item_eq ?k1 ?k2 ?k3 ?k4 ?k5 ?kE ?_ ?k6; (case k1 => exact News.isList (by k_asm) (by k_mem)); (case k2 => assumption); (case k3 => decide); (case k4 => omega); (case k5 => omega); (case kE => assumption); (case k6 => with_unfolding_all rfl); k_whole); intro t9qi)) | (with_reducible (k_here; (with_reducible show wpAny _ _ (storeName _ _ _) _ _ _); k_dflt ((first | refine' stI ?F ?N ?_ ?a ?b | refine' stS ?F ?N ?_ ?a ?b | refine' stA ?F ?N ?_ ?a ?b); (case F => k_asm); (case N => k_asm); (case a => exact Eq.refl ScopeKind.function); (case b => exact Eq.refl (some NameKind.local)); k_whole; intro hqi tqi uqi Fqi Nqi; (try k_sweep)))) | (with_reducible (k_here; (with_reducible show wpAny _ _ (eval (Expr.Name _ _) _) _ _ _); k_dflt (refine' nameX_L ?F ?v ?_ ?a ?b ?d; (case F => k_asm); (case a => exact Eq.refl ScopeKind.function); (case b => exact Eq.refl (some NameKind.local)); (case d => exact Eq.refl false); (case v => exact Eq.refl (some _)); k_whole)))); (all_goals (try dsimp only))) | (walk1; (all_goals (try dsimp only))) | (dsimp only; walk1)))
    refine mark_in ?_
    k_dflt (refine' (lev_c (lettersF behind) (lettersF lead) (3 + spare) ap _ _ _).use ?k1 ?k2 ?k3 ?k4 ?k5 ?kK ?kp ?kd ?ku ?_; (case k1 => k_asm); (case k2 => k_asm); (case k3 => k_asm); (case k4 => k_asm); (case k5 => k_asm); (case kK => first | exact rfl | assumption))
    case kp => exact hv2
    case kd => exact Nat.le_of_ble_eq_true rfl
    case ku => exact Nat.le_of_ble_eq_true rfl
    intro t12 h12 tk12 _ F12 N12
    try dsimp only
    (repeat' (first | (k_unfold; (try dsimp only)) | ((first | (with_reducible (k_here; (with_reducible show wpAny _ _ (execs (Stmt.If (Expr.UnaryOp _ _ _) _ _ _ :: _) _) _ _ _); refine mark_of ?_)) | (with_reducible (k_here; (with_reducible show wpAny _ _ (exec (Stmt.If (Expr.BoolOp _ _ _) _ _ _) _) _ _ _); refine mark_of ?_)) | (with_reducible (k_here; (with_reducible show wpAny _ _ (call (Value.ref 183) _) _ _ _); refine mark_of ?_)) | (with_reducible (k_here; (with_reducible show wpAny _ _ (call (Value.ref 152) _) _ _ _); refine mark_of ?_)) | (with_reducible (k_here; (with_reducible show wpAny _ _ (subscriptTail _ _ (Value.ref _) (Value.int _ _)) _ _ _); (with_unfolding_all refine' ints_item_eq ?k1 ?k2 ?k3 ?k4 ?k5 ?kE ?_ ?k6; (case k1 => exact News.isList (by k_asm) (by k_mem)); (case k2 => assumption); (case k3 => decide); (case k4 => omega); (case k5 => omega); (case kE => assumption); (case k6 => with_unfolding_all rfl); k_whole); intro t9qi)) | (with_reducible (k_here; (with_reducible show wpAny _ _ (storeName _ _ _) _ _ _); k_dflt ((first | refine' stI ?F ?N ?_ ?a ?b | refine' stS ?F ?N ?_ ?a ?b | refine' stA ?F ?N ?_ ?a ?b); (case F => k_asm); (case N => k_asm); (case a => exact Eq.refl ScopeKind.function); (case b => exact Eq.refl (some NameKind.local)); k_whole; intro hqi tqi uqi Fqi Nqi; (try k_sweep)))) | (with_reducible (k_here; (with_reducible show wpAny _ _ (eval (Expr.Name _ _) _) _ _ _); k_dflt (refine' nameX_L ?F ?v ?_ ?a ?b ?d; (case F => k_asm); (case a => exact Eq.refl ScopeKind.function); (case b => exact Eq.refl (some NameKind.local)); (case d => exact Eq.refl false); (case v => exact Eq.refl (some _)); k_whole)))); (all_goals (try dsimp only))) | (walk1; (all_goals (try dsimp only))) | (dsimp only; walk1)))
    · exact absurd rfl (by assumption)
    refine mark_in ?_
    (with_reducible rename News _ _ _ _ => kN9)
    (with_reducible rename Fr _ _ _ _ => kF9)
    refine hQ _ _ _ kF9 ?hm1 ?hm2 kN9
    case hm1 => rfl
    case hm2 =>
      intro z hz
      have e11 : z ≠ Str.ofString "middle" := fun h => by rw [h] at hz; exact absurd hz (by decide +kernel)
      have e12 : z ≠ Str.ofString "apart" := fun h => by rw [h] at hz; exact absurd hz (by decide +kernel)
      ((repeat (first | with_reducible exact rfl | refine upI_ne (by first | exact e11 | exact e12) ?_ | refine upS_ne (by first | exact e11 | exact e12) ?_ | refine upA_ne (by first | exact e11 | exact e12) ?_ | refine ite_ne (by first | exact e11 | exact e12) ?_ | refine ite_ctn (by assumption) ?_)); done)
end
section
open PySem PySem.W PyProof.Rows
set_option Elab.async false
set_option maxRecDepth 100000
set_option maxHeartbeats 8000000
local macro_rules | `(tactic| k_mem) => `(tactic| ((repeat (first | with_reducible assumption | with_reducible refine List.mem_cons_of_mem _ ?_)); done))
local macro_rules | `(tactic| is_list) => `(tactic| exact News.isList (by k_asm) (by (repeat (first | assumption | with_reducible refine List.mem_cons_of_mem _ ?_)); done))
theorem turn2d {w : World} {loose : List Str} {mean : ExcName → Option Value} {mg mb : Str → Option Value} {base : Heap} {L fa : Addr} {cd : Value} {s : Shared} {P : Flow → Shared → Prop} {E : Value → Shared → Prop} {m₁ : Str → Option Value} {ld I D2 c1 c2 : Addr} {w1 w2 w3 oI k1 k2 : Obj} {vs zs : List Value} {e : Nat} {tl tp tb tq2 : Tok} {p more : Int} {mid : Bool} {lead behind : Str}
    (K : Below callerA base [] base) (X : (hd.heap_39 w.params).In base) (T : Top topProg loose mean mg mb base)
    (F : Fr base L s.heap (fun y => if y = Str.ofString "middle" then some (.bool mid) else if y = Str.ofString "place" then some (.int p tp) else if y = Str.ofString "behind" then some (.str behind tb) else if y = Str.ofString "more" then some (.int more tq2) else m₁ y))
    (N : News base L s.heap [(D2, LCg.lst zs), (I, oI), (ld, listOf vs.toArray e), (53, tabObj #[rawInt (71 : Nat), rawInt (4 : Nat), .ref c1]), (46, tabObj #[rawInt (56 : Nat), rawInt (4 : Nat), .ref c2]), (L + 1 + 1 + 1, w3), (L + 1 + 1, w2), (L + 1, w1), (c1, k1), (c2, k2)])
    (d3 : w3.data = .cell (some (.str lead tl)))
    (hl1 : lead.length ≤ 6) (hl2 : behind.length ≤ 6) (hB1 : Blank lead) (hB2 : Blank behind) (hp1 : 0 ≤ p) (hp2 : p < lead.length) (hm1 : 0 ≤ more) (hm2 : more ≤ 2)
    (hO1 : (Txt.mul (Str.ofString "	") (more.fdiv 2) ++ behind ++ Txt.mul (Str.ofString " ") (more.fmod 2)).length ≤ 10) (hO2 : Blank (Txt.mul (Str.ofString "	") (more.fdiv 2) ++ behind ++ Txt.mul (Str.ofString " ") (more.fmod 2)))
    (hW : (mid && (Txt.item lead p == Str.ofString " ")) = false → decide ((wsRun lead lead.length).2.2.2 = (wsRun (Txt.mul (Str.ofString "	") (more.fdiv 2) ++ behind ++ Txt.mul (Str.ofString " ") (more.fmod 2)) (Txt.mul (Str.ofString "	") (more.fdiv 2) ++ behind ++ Txt.mul (Str.ofString " ") (more.fmod 2)).length).2.2.2 ∧ (wsRun lead lead.length).1 = (wsRun (Txt.mul (Str.ofString "	") (more.fdiv 2) ++ behind ++ Txt.mul (Str.ofString " ") (more.fmod 2)) (Txt.mul (Str.ofString "	") (more.fdiv 2) ++ behind ++ Txt.mul (Str.ofString " ") (more.fmod 2)).length).1) = (mid && (more == 0)))
    (hP : ∀ (h' : Heap) (tk' : Nat) (m' : Str → Option Value), Fr base L h' m' → (∀ z, z ≠ Str.ofString "other" → m' z = if z = Str.ofString "middle" then some (.bool mid) else if z = Str.ofString "place" then some (.int p tp) else if z = Str.ofString "behind" then some (.str behind tb) else if z = Str.ofString "more" then some (.int more tq2) else m₁ z) → News base L h' [(D2, LCg.lst zs), (I, oI), (ld, listOf vs.toArray e), (53, tabObj #[rawInt (71 : Nat), rawInt (4 : Nat), .ref c1]), (46, tabObj #[rawInt (56 : Nat), rawInt (4 : Nat), .ref c2]), (L + 1 + 1 + 1, w3), (L + 1 + 1, w2), (L + 1, w1), (c1, k1), (c2, k2)] → P .next { s with heap := h', toks := tk' })
    :
    wpAny (model PySem.Challenge.rw_tv0051_01.row.prog w) (callerA.deeper (envOfC (Str.ofString "law") lawScope L fa cd)) (execs ((forBody 15).drop 17) (envOfC (Str.ofString "law") lawScope L fa cd)) P E s := by
  conv in List.drop 17 (forBody 15) => whnf
  conv in (occs := *) lawScope => all_goals whnf
  revert X
  k_fill
  intro X
  (repeat' (first | (k_unfold; (try dsimp only)) | ((first | (with_reducible (k_here; (with_reducible show wpAny _ _ (compareOp CmpOp.Eq (Value.ref _) (Value.ref _)) _ _ _); refine mark_of ?_)) | (with_reducible (k_here; (with_reducible show wpAny _ _ (call (Value.ref 134) _) _ _ _); refine mark_of ?_)) | (with_reducible (k_here; (with_reducible show wpAny _ _ (storeName _ _ _) _ _ _); k_dflt ((first | refine' stI ?F ?N ?_ ?a ?b | refine' stS ?F ?N ?_ ?a ?b | refine' stA ?F ?N ?_ ?a ?b); (case F => k_asm); (case N => k_asm); (case a => exact Eq.refl ScopeKind.function); (case b => exact Eq.refl (some NameKind.local)); k_whole; intro hqi tqi uqi Fqi Nqi; (try k_sweep)))) | (with_reducible (k_here; (with_reducible show wpAny _ _ (eval (Expr.Name _ _) _) _ _ _); k_dflt (refine' nameX_L ?F ?v ?_ ?a ?b ?d; (case F => k_asm); (case a => exact Eq.refl ScopeKind.function); (case b => exact Eq.refl (some NameKind.local)); (case d => exact Eq.refl false); (case v => exact Eq.refl (some _)); k_whole)))); (all_goals (try dsimp only))) | (walk1; (all_goals (try dsimp only))) | (dsimp only; walk1)))
  · (with_reducible rename News _ _ _ _ => kN9)
    (with_reducible rename Fr _ _ _ _ => kF9)
    exact hP _ _ _ kF9 (fun z hz => rfl) kN9
  all_goals (
    have hWW := hW (by first | (rw [show mid = false by assumption]; rfl) | (rw [show mid = true by assumption, show (Txt.item lead p == Str.ofString " ") = false by assumption]; rfl))
    clear hW
    refine mark_in ?_
    k_dflt (refine' (make_c lead tl).use ?k1 ?k2 ?k3 ?k4 ?k5 ?kK ?kp ?kd ?ku ?_; (case k1 => k_asm); (case k2 => k_asm); (case k3 => k_asm); (case k4 => k_asm); (case k5 => k_asm); (case kK => exact rfl))
    case kp => exact ⟨by omega, hB1⟩
    case kd => exact Nat.le_of_ble_eq_true rfl
    case ku => exact Nat.le_of_ble_eq_true rfl
    intro xiA dxA tcA tnA wsA wtA t1A t2A t3A k1A k2A k3A k4A k5A h9A tk9A hvsA F9A N9A l1A l2A l3A l4A
    (try simp only [AllLt, and_true] at l1A)
    (dsimp only [wsObjs, List.cons_append, List.nil_append] at N9A)
    try dsimp only
    (repeat' (first | (k_unfold; (try dsimp only)) | ((first | (with_reducible (k_here; (with_reducible show wpAny _ _ (compareOp CmpOp.Eq (Value.ref _) (Value.ref _)) _ _ _); refine mark_of ?_)) | (with_reducible (k_here; (with_reducible show wpAny _ _ (call (Value.ref 134) _) _ _ _); refine mark_of ?_)) | (with_reducible (k_here; (with_reducible show wpAny _ _ (storeName _ _ _) _ _ _); k_dflt ((first | refine' stI ?F ?N ?_ ?a ?b | refine' stS ?F ?N ?_ ?a ?b | refine' stA ?F ?N ?_ ?a ?b); (case F => k_asm); (case N => k_asm); (case a => exact Eq.refl ScopeKind.function); (case b => exact Eq.refl (some NameKind.local)); k_whole; intro hqi tqi uqi Fqi Nqi; (try k_sweep)))) | (with_reducible (k_here; (with_reducible show wpAny _ _ (eval (Expr.Name _ _) _) _ _ _); k_dflt (refine' nameX_L ?F ?v ?_ ?a ?b ?d; (case F => k_asm); (case a => exact Eq.refl ScopeKind.function); (case b => exact Eq.refl (some NameKind.local)); (case d => exact Eq.refl false); (case v => exact Eq.refl (some _)); k_whole)))); (all_goals (try dsimp only))) | (walk1; (all_goals (try dsimp only))) | (dsimp only; walk1)))
    refine mark_in ?_
    k_dflt (refine' (make_c _ _).use ?k1 ?k2 ?k3 ?k4 ?k5 ?kK ?kp ?kd ?ku ?_; (case k1 => k_asm); (case k2 => k_asm); (case k3 => k_asm); (case k4 => k_asm); (case k5 => k_asm); (case kK => exact rfl))
    case kp => exact ⟨hO1, hO2⟩
    case kd => exact Nat.le_of_ble_eq_true rfl
    case ku => exact Nat.le_of_ble_eq_true rfl
    intro xiB dxB tcB tnB wsB wtB t1B t2B t3B k1B k2B k3B k4B k5B h9B tk9B hvsB F9B N9B l1B l2B l3B l4B
    (try simp only [AllLt, and_true] at l1B)
    (dsimp only [wsObjs, List.cons_append, List.nil_append] at N9B)
    try dsimp only
    (repeat' (first | (k_unfold; (try dsimp only)) | ((first | (with_reducible (k_here; (with_reducible show wpAny _ _ (compareOp CmpOp.Eq (Value.ref _) (Value.ref _)) _ _ _); refine mark_of ?_)) | (with_reducible (k_here; (with_reducible show wpAny _ _ (call (Value.ref 134) _) _ _ _); refine mark_of ?_)) | (with_reducible (k_here; (with_reducible show wpAny _ _ (storeName _ _ _) _ _ _); k_dflt ((first | refine' stI ?F ?N ?_ ?a ?b | refine' stS ?F ?N ?_ ?a ?b | refine' stA ?F ?N ?_ ?a ?b); (case F => k_asm); (case N => k_asm); (case a => exact Eq.refl ScopeKind.function); (case b => exact Eq.refl (some NameKind.local)); k_whole; intro hqi tqi uqi Fqi Nqi; (try k_sweep)))) | (with_reducible (k_here; (with_reducible show wpAny _ _ (eval (Expr.Name _ _) _) _ _ _); k_dflt (refine' nameX_L ?F ?v ?_ ?a ?b ?d; (case F => k_asm); (case a => exact Eq.refl ScopeKind.function); (case b => exact Eq.refl (some NameKind.local)); (case d => exact Eq.refl false); (case v => exact Eq.refl (some _)); k_whole)))); (all_goals (try dsimp only))) | (walk1; (all_goals (try dsimp only))) | (dsimp only; walk1)))
    refine mark_in ?_
    (with_reducible rename News _ _ _ _ => kN; with_reducible rename Fr _ _ _ _ => kF)
    k_dflt (refine' norm_eq kN (.tail _ (.tail _ (.tail _ (.tail _ (.head _))))) (.head _) (.tail _ (.tail _ (.tail _ (.tail _ (.tail _ (.head _)))))) (.tail _ (.head _)) hvsA hvsB (by ke_room) ?_)
    rw [hWW]
    (repeat' (first | (k_unfold; (try dsimp only)) | ((first | (with_reducible (k_here; (with_reducible show wpAny _ _ (compareOp CmpOp.Eq (Value.ref _) (Value.ref _)) _ _ _); refine mark_of ?_)) | (with_reducible (k_here; (with_reducible show wpAny _ _ (call (Value.ref 134) _) _ _ _); refine mark_of ?_)) | (with_reducible (k_here; (with_reducible show wpAny _ _ (storeName _ _ _) _ _ _); k_dflt ((first | refine' stI ?F ?N ?_ ?a ?b | refine' stS ?F ?N ?_ ?a ?b | refine' stA ?F ?N ?_ ?a ?b); (case F => k_asm); (case N => k_asm); (case a => exact Eq.refl ScopeKind.function); (case b => exact Eq.refl (some NameKind.local)); k_whole; intro hqi tqi uqi Fqi Nqi; (try k_sweep)))) | (with_reducible (k_here; (with_reducible show wpAny _ _ (eval (Expr.Name _ _) _) _ _ _); k_dflt (refine' nameX_L ?F ?v ?_ ?a ?b ?d; (case F => k_asm); (case a => exact Eq.refl ScopeKind.function); (case b => exact Eq.refl (some NameKind.local)); (case d => exact Eq.refl false); (case v => exact Eq.refl (some _)); k_whole)))); (all_goals (try dsimp only))) | (walk1; (all_goals (try dsimp only))) | (dsimp only; walk1)))
    all_goals first
      | ((rename (bne _ _ = true) => hx9)
         exfalso
         first
           | (rw [show mid = true by assumption] at hx9; exact absurd hx9 (by simp))
           | (rw [show mid = false by assumption] at hx9; exact absurd hx9 (by simp)))
      | ((with_reducible rename News _ _ _ _ => kN9)
         (with_reducible rename Fr _ _ _ _ => kF9)
         exact hP _ _ _ kF9 (fun z hz => by ((repeat (first | with_reducible exact rfl | refine upI_ne (by first | exact hz) ?_ | refine upS_ne (by first | exact hz) ?_ | refine upA_ne (by first | exact hz) ?_ | refine ite_ne (by first | exact hz) ?_ | refine ite_ctn (by assumption) ?_)); done)) (News.sub kN9 (List.forall_mem_cons.mpr ⟨(.tail _ (.tail _ (.tail _ (.tail _ (.tail _ (.tail _ (.tail _ (.tail _ (.head _))))))))), List.forall_mem_cons.mpr ⟨(.tail _ (.tail _ (.tail _ (.tail _ (.tail _ (.tail _ (.tail _ (.tail _ (.tail _ (.head _)))))))))), List.forall_mem_cons.mpr ⟨(.tail _ (.tail _ (.tail _ (.tail _ (.tail _ (.tail _ (.tail _ (.tail _ (.tail _ (.tail _ (.head _))))))))))), List.forall_mem_cons.mpr ⟨(.tail _ (.tail _ (.tail _ (.tail _ (.tail _ (.tail _ (.tail _ (.tail _ (.tail _ (.tail _ (.tail _ (.head _)))))))))))), List.forall_mem_cons.mpr ⟨(.tail _ (.tail _ (.tail _ (.tail _ (.tail _ (.tail _ (.tail _ (.tail _ (.tail _ (.tail _ (.tail _ (.tail _ (.head _))))))))))))), List.forall_mem_cons.mpr ⟨(.tail _ (.tail _ (.tail _ (.tail _ (.tail _ (.tail _ (.tail _ (.tail _ (.tail _ (.tail _ (.tail _ (.tail _ (.tail _ (.head _)))))))))))))), List.forall_mem_cons.mpr ⟨(.tail _ (.tail _ (.tail _ (.tail _ (.tail _ (.tail _ (.tail _ (.tail _ (.tail _ (.tail _ (.tail _ (.tail _ (.tail _ (.tail _ (.head _))))))))))))))), List.forall_mem_cons.mpr ⟨(.tail _ (.tail _ (.tail _ (.tail _ (.tail _ (.tail _ (.tail _ (.tail _ (.tail _ (.tail _ (.tail _ (.tail _ (.tail _ (.tail _ (.tail _ (.head _)))))))))))))))), List.forall_mem_cons.mpr ⟨(.tail _ (.tail _ (.tail _ (.tail _ (.tail _ (.tail _ (.tail _ (.tail _ (.tail _ (.tail _ (.tail _ (.tail _ (.tail _ (.tail _ (.tail _ (.tail _ (.head _))))))))))))))))), List.forall_mem_cons.mpr ⟨(.tail _ (.tail _ (.tail _ (.tail _ (.tail _ (.tail _ (.tail _ (.tail _ (.tail _ (.tail _ (.tail _ (.tail _ (.tail _ (.tail _ (.tail _ (.tail _ (.tail _ (.head _)))))))))))))))))), List.forall_mem_nil _⟩⟩⟩⟩⟩⟩⟩⟩⟩⟩))))
end
section
open PySem PySem.W PyProof.Rows PyProof.V PySem.Spec PySem.Calls
set_option Elab.async false
set_option maxRecDepth 100000
set_option maxHeartbeats 8000000
theorem Fr.cong {h₀ h : Heap} {L : Addr} {m m' : Str → Option Value} (F : Fr h₀ L h m) (e : ∀ y, m' y = m y) : Fr h₀ L h m' := (funext e : m' = m) ▸ F
theorem one_if {m : Str → Option Value} {a : Str} {v : Option Value} (h : m a = v) (r : Str → Option Value) (hr : ∀ y, y ≠ a → r y = m y) (y : Str) : (if y = a then v else r y) = m y := by
  by_cases q : y = a
  · rw [if_pos q, q, h]
  · rw [if_neg q, hr y q]
/-- what a call of Whitespace.equal shows -/
noncomputable def othF (x : Str) (more : Int) : Str := Txt.mul (Str.ofString "\t") (more.fdiv 2) ++ x ++ Txt.mul (Str.ofString " ") (more.fmod 2)
noncomputable def mcF (x : Str) : Int := (crk x x.length (plF x x.length)).getD 0 0
/-- all that a pair of leads must show -/
structure GoodPair (n : Int) (lead behind : Str) : Prop where
  l1 : (lead.length : Int) = n
  l2 : behind.length = lead.length
  b1 : Blank lead
  b2 : Blank behind
  g1 : BegOk lead lead.length
  g2 : 1 ≤ plF lead lead.length ∧ plF lead lead.length < lead.length
  g3 : (Txt.item lead (plF lead lead.length) ++ Txt.slice lead none (some (plF lead lead.length)) ++ Txt.slice lead (some (plF lead lead.length + 1)) none != behind) = false
  g4 : (bisF (fun i => (crk lead lead.length (plF lead lead.length)).getD i 0) 10 1 ((crk lead lead.length (plF lead lead.length)).length : Nat) != 2 - (crk lead lead.length (plF lead lead.length)).getD ((crk lead lead.length (plF lead lead.length)).length - 1) 0) = false
  g5 : IDM (numF lead) (2 ^ (plF lead lead.length).toNat)
  g6 : strip (bitsF behind) ≠ []
  g7 : I2D (nextF lead (plF lead lead.length)) 1
  g8 : digs (2 ^ (1 : Int).toNat) (nextF lead (plF lead lead.length)) (ndig (nextF lead (plF lead lead.length)) 1) = strip (bitsF behind)
  g9 : Builtin.Int.intBits (numF lead) ≤ 100
  v1 : ∀ spare : Int, 0 ≤ spare → spare ≤ 2 → LevOk lead behind (3 + spare) 4
  v2 : ∀ spare : Int, 0 ≤ spare → spare ≤ 2 → LevOk (lettersF behind) (lettersF lead) (3 + spare) (if mcF lead = 1 ∧ Txt.item lead 0 = Str.ofString "\t" ∧ Txt.item lead (plF lead lead.length) = Str.ofString " " then 4 else 2)
  o1 : ∀ more : Int, 0 ≤ more → more ≤ 2 → (othF behind more).length ≤ 10 ∧ Blank (othF behind more) ∧ (((mcF lead == 1) && (Txt.item lead (plF lead lead.length) == Str.ofString " ")) = false →
    decide ((wsRun lead lead.length).2.2.2 = (wsRun (othF behind more) (othF behind more).length).2.2.2 ∧ (wsRun lead lead.length).1 = (wsRun (othF behind more) (othF behind more).length).1) = ((mcF lead == 1) && (more == 0)))
structure S2 where
  c1 : Addr
  c2 : Addr
  k1 : Obj
  k2 : Obj
  f1 : Array Value
  f2 : Array Value
  u1 : Tok
  u2 : Tok
  w3 : Obj
  v3 : Option Value
noncomputable abbrev l2Led (ld L : Addr) (vs : List Value) (e : Nat) (w1 w2 : Obj) (c : S2) : List (Addr × Obj) := [(ld, listOf vs.toArray e), (53, tabObj #[rawInt (71 : Nat), rawInt (4 : Nat), .ref c.c1]), (46, tabObj #[rawInt (56 : Nat), rawInt (4 : Nat), .ref c.c2]), (L + 1 + 1 + 1, c.w3), (L + 1 + 1, w2), (L + 1, w1), (c.c1, c.k1), (c.c2, c.k2)]
structure L2Inv (i : Nat) (c : S2) : Prop where
  d3 : c.w3.data = .cell c.v3
  dk1 : c.k1.data = .fields c.f1
  df1 : c.f1[1]? = some (.str QD c.u1)
  dk2 : c.k2.data = .fields c.f2
  df2 : c.f2[1]? = some (.str QI c.u2)
noncomputable abbrev l2Ps (_ : S2) : List (Str × Value) := []
end
section
open PySem PySem.W PyProof.Rows
set_option Elab.async false
set_option maxRecDepth 100000
set_option maxHeartbeats 8000000
theorem turn2_all {w : World} {loose : List Str} {mean : ExcName → Option Value} {mg mb : Str → Option Value} {base : Heap} {L fa : Addr} {cd : Value} {s : Shared} {Q : Flow → Shared → Prop} {E : Value → Shared → Prop} {m₀ u : Str → Option Value} {ld I : Addr} {w1 w2 oI : Obj} {vs : List Value} {e : Nat} {xs : List Str} {i : Nat} {t tq1 tq2 tb1 tb2 : Tok} {bl tb spare more : Int} {lead behind : Str} (c : S2)
    (K : Below callerA base [] base) (X : (hd.heap_39 w.params).In base) (T : Top topProg loose mean mg mb base) (hC1 : CodeHd base 57 53) (hC2 : CodeHd base 50 46) (hL1 : @LT.lt Nat _ 53 L) (hL2 : @LT.lt Nat _ 46 L)
    (F : Fr base L s.heap (fun y => if y = Str.ofString "i" then some (.int (i : Int) t) else if st2.contains y then u y else if y = Str.ofString "blanks" then some (.int bl tb1) else if y = Str.ofString "tabs" then some (.int tb tb2) else if y = Str.ofString "spare" then some (.int spare tq1) else if y = Str.ofString "more" then some (.int more tq2) else m₀ y))
    (N : News base L s.heap ((I, oI) :: l2Led ld L vs e w1 w2 c)) (H : L2Inv i c) (d2 : w2.data = .cell (some (.ref ld)))
    (hxs : StrsAre vs xs) (hlen : xs.length = 4) (hi : i < 3) (hne : ∀ p ∈ l2Led ld L vs e w1 w2 c, p.1 ≠ I) (hIO : IterObj oI) (n3 : @Ne Nat (L + 1 + 1 + 1) ld) (n6 : @Ne Nat ld 53) (n7 : @Ne Nat ld 46)
    (hlead : xs.getD (i : Int).toNat (Str.ofString "") = lead) (hbehind : xs.getD ((i : Int) + 1).toNat (Str.ofString "") = behind) (G : GoodPair (bl + tb) lead behind)
    (hbl : 1 ≤ bl ∧ bl ≤ 3) (htb : 1 ≤ tb ∧ tb ≤ 3) (hs : 0 ≤ spare ∧ spare ≤ 2) (hm : 0 ≤ more ∧ more ≤ 2)
    (hPass : PassesOwn (model PySem.Challenge.rw_tv0051_01.row.prog w) (callerA.deeper (envOfC (Str.ofString "law") lawScope L fa cd)) (envOfC (Str.ofString "law") lawScope L fa cd) E) :
    wpAny (model PySem.Challenge.rw_tv0051_01.row.prog w) (callerA.deeper (envOfC (Str.ofString "law") lawScope L fa cd)) (execs (forBody 15) (envOfC (Str.ofString "law") lawScope L fa cd)) (TxPost base L (Str.ofString "i") (l2Led ld L vs e w1 w2) l2Ps st2 (fun y => if y = Str.ofString "blanks" then some (.int bl tb1) else if y = Str.ofString "tabs" then some (.int tb tb2) else if y = Str.ofString "spare" then some (.int spare tq1) else if y = Str.ofString "more" then some (.int more tq2) else m₀ y) (L2Inv (i + 1)) I oI Q s) E s := by
  obtain ⟨c1, c2, k1, k2, f1, f2, u1, u2, w3, v3⟩ := c
  obtain ⟨d3, dk1, df1, dk2, df2⟩ := H
  dsimp only at d3 dk1 df1 dk2 df2
  have n1 : @Ne Nat ld I := hne _ (.head _)
  have n2 : @Ne Nat (L + 1 + 1 + 1) I := hne _ (.tail _ (.tail _ (.tail _ (.head _))))
  have a1 : @Ne Nat c1 53 := code_ne N (.tail _ (.tail _ (.tail _ (.tail _ (.tail _ (.tail _ (.tail _ (.head _)))))))) (.tail _ (.tail _ (.head _))) dk1 df1 (.inr ⟨_, _, _, rfl⟩)
  have a2 : @Ne Nat c2 53 := code_ne N (.tail _ (.tail _ (.tail _ (.tail _ (.tail _ (.tail _ (.tail _ (.tail _ (.head _))))))))) (.tail _ (.tail _ (.head _))) dk2 df2 (.inr ⟨_, _, _, rfl⟩)
  have a3 : @Ne Nat c1 46 := code_ne N (.tail _ (.tail _ (.tail _ (.tail _ (.tail _ (.tail _ (.tail _ (.head _)))))))) (.tail _ (.tail _ (.tail _ (.head _)))) dk1 df1 (.inr ⟨_, _, _, rfl⟩)
  have a4 : @Ne Nat c2 46 := code_ne N (.tail _ (.tail _ (.tail _ (.tail _ (.tail _ (.tail _ (.tail _ (.tail _ (.head _))))))))) (.tail _ (.tail _ (.tail _ (.head _)))) dk2 df2 (.inr ⟨_, _, _, rfl⟩)
  have a5 : @Ne Nat c1 (L + 1 + 1 + 1) := ne_cell N (.tail _ (.tail _ (.tail _ (.tail _ (.tail _ (.tail _ (.tail _ (.head _)))))))) (.tail _ (.tail _ (.tail _ (.tail _ (.head _))))) dk1 d3
  have a6 : @Ne Nat c2 (L + 1 + 1 + 1) := ne_cell N (.tail _ (.tail _ (.tail _ (.tail _ (.tail _ (.tail _ (.tail _ (.tail _ (.head _))))))))) (.tail _ (.tail _ (.tail _ (.tail _ (.head _))))) dk2 d3
  have a7 : @Ne Nat I 53 := (hne _ (.tail _ (.head _))).symm
  have a8 : @Ne Nat I 46 := (hne _ (.tail _ (.tail _ (.head _)))).symm
  have hk6 : lead.length ≤ 6 := by have := G.l1; omega
  have hk7 : behind.length ≤ 6 := by have := G.l2; omega
  have hcl := crk_len lead lead.length (plF lead lead.length)
  have g2 := G.g2
  refine turn2 K X T hC1 hC2 hL1 hL2 F N d3 d2 dk1 df1 dk2 df2 hxs hlen hi n1 n2 n3 a5 a6 hlead hbehind G.l1 G.l2 G.b1 G.b2 G.g1 G.g2 G.g3 G.g4 hbl htb ⟨a7, n6, a1, a2⟩ ⟨a8, n7, a3, a4⟩ G.g5 G.g6 G.g7 G.g8 G.g9 hPass ?_
  intro h1 tk1 m1 D2 cA cB zs w3' kA kB fA fB uA uB tl tp tb' F1 hp1 hb1 hc1 hr1 e3 hz N1 q1 q2 q3 q4
  have hs1 : m1 (Str.ofString "spare") = some (.int spare tq1) := by rw [hr1 _ (by decide +kernel) (by decide +kernel)]; rfl
  have hm1 : m1 (Str.ofString "more") = some (.int more tq2) := by rw [hr1 _ (by decide +kernel) (by decide +kernel)]; rfl
  have E1 := (one_if hp1 _ fun y _ => one_if hb1 _ (fun y _ => one_if hc1 _ (fun y _ => one_if hs1 _ (fun y _ => one_if hm1 m1 (fun y _ => rfl) y) y) y) y)
  have F1' : Fr base L h1 (fun y => if y = Str.ofString "place" then some (.int (plF lead lead.length) tp) else if y = Str.ofString "behind" then some (.str behind tb') else if y = Str.ofString "crooked" then some (.ref D2) else if y = Str.ofString "spare" then some (.int spare tq1) else if y = Str.ofString "more" then some (.int more tq2) else m1 y) :=
    Fr.cong F1 E1
  have v1 := G.v1 spare hs.1 hs.2
  have v2 := G.v2 spare hs.1 hs.2
  obtain ⟨o1, o2, o3⟩ := G.o1 more hm.1 hm.2
  refine turn2c (mc := mcF lead) K X T F1' N1 e3 hz (by omega) (by omega) rfl hk6 hk7 G.b1 G.b2 (by omega) (by omega) hs.1 hs.2 v1 v2 rfl ?_
  intro h2 tk2 m2 F2 hmid hr2 N2
  have hp2 : m2 (Str.ofString "place") = some (.int (plF lead lead.length) tp) := by rw [hr2 _ (by decide +kernel)]; rfl
  have hb2 : m2 (Str.ofString "behind") = some (.str behind tb') := by rw [hr2 _ (by decide +kernel)]; rfl
  have hm2 : m2 (Str.ofString "more") = some (.int more tq2) := by rw [hr2 _ (by decide +kernel)]; rfl
  have E2 := (one_if hmid _ fun y _ => one_if hp2 _ (fun y _ => one_if hb2 _ (fun y _ => one_if hm2 m2 (fun y _ => rfl) y) y) y)
  have F2' : Fr base L h2 (fun y => if y = Str.ofString "middle" then some (.bool (mcF lead == 1)) else if y = Str.ofString "place" then some (.int (plF lead lead.length) tp) else if y = Str.ofString "behind" then some (.str behind tb') else if y = Str.ofString "more" then some (.int more tq2) else m2 y) :=
    Fr.cong F2 E2
  refine turn2d (lead := lead) K X T F2' N2 e3 hk6 hk7 G.b1 G.b2 (by omega) (by omega) hm.1 hm.2 o1 o2 o3 ?_
  intro h3 tk3 m3 F3 hr3 N3
  have b1 : @Ne Nat cA I := iter_ne N3 (.tail _ (.tail _ (.tail _ (.tail _ (.tail _ (.tail _ (.tail _ (.tail _ (.head _))))))))) (.tail _ (.head _)) q1 q2 hIO
  have b2 : @Ne Nat cB I := iter_ne N3 (.tail _ (.tail _ (.tail _ (.tail _ (.tail _ (.tail _ (.tail _ (.tail _ (.tail _ (.head _)))))))))) (.tail _ (.head _)) q3 q4 hIO
  refine TxEnd.mk' ⟨cA, cB, kA, kB, fA, fB, uA, uB, w3', _⟩ F3 N3 (.tail _ (.head _)) ?mxL ?mxN (fun p hp => nomatch hp) ?mxR ⟨e3, q1, q2, q3, q4⟩
  case mxL => exact List.forall_mem_cons.mpr ⟨(.tail _ (.tail _ (.head _))), List.forall_mem_cons.mpr ⟨(.tail _ (.tail _ (.tail _ (.head _)))), List.forall_mem_cons.mpr ⟨(.tail _ (.tail _ (.tail _ (.tail _ (.head _))))), List.forall_mem_cons.mpr ⟨(.tail _ (.tail _ (.tail _ (.tail _ (.tail _ (.head _)))))), List.forall_mem_cons.mpr ⟨(.tail _ (.tail _ (.tail _ (.tail _ (.tail _ (.tail _ (.head _))))))), List.forall_mem_cons.mpr ⟨(.tail _ (.tail _ (.tail _ (.tail _ (.tail _ (.tail _ (.tail _ (.head _)))))))), List.forall_mem_cons.mpr ⟨(.tail _ (.tail _ (.tail _ (.tail _ (.tail _ (.tail _ (.tail _ (.tail _ (.head _))))))))), List.forall_mem_cons.mpr ⟨(.tail _ (.tail _ (.tail _ (.tail _ (.tail _ (.tail _ (.tail _ (.tail _ (.tail _ (.head _)))))))))), List.forall_mem_nil _⟩⟩⟩⟩⟩⟩⟩⟩
  case mxN => exact List.forall_mem_cons.mpr ⟨n1, List.forall_mem_cons.mpr ⟨a7.symm, List.forall_mem_cons.mpr ⟨a8.symm, List.forall_mem_cons.mpr ⟨n2, List.forall_mem_cons.mpr ⟨hne _ (.tail _ (.tail _ (.tail _ (.tail _ (.head _))))), List.forall_mem_cons.mpr ⟨hne _ (.tail _ (.tail _ (.tail _ (.tail _ (.tail _ (.head _)))))), List.forall_mem_cons.mpr ⟨b1, List.forall_mem_cons.mpr ⟨b2, List.forall_mem_nil _⟩⟩⟩⟩⟩⟩⟩⟩
  case mxR =>
    intro z z1 _ z2
    have e1 : z ≠ Str.ofString "other" := not_stored (by decide +kernel) z2
    have e7 : st2c.contains z = false := contains_sub (l := st2c) (l' := st2) (by
      intro y hy
      simp only [st2c, List.mem_cons, List.not_mem_nil, or_false] at hy
      rcases hy with h | h <;> rw [h] <;> simp [st2]) z2
    exact (hr3 z e1).trans ((E2 z).trans ((hr2 z e7).trans ((E1 z).trans (hr1 z z1 z2))))
end
section
open PySem PySem.W PyProof.Rows
set_option Elab.async false
set_option maxRecDepth 100000
set_option maxHeartbeats 8000000
local macro_rules | `(tactic| k_mem) => `(tactic| ((repeat (first | with_reducible assumption | with_reducible refine List.mem_cons_of_mem _ ?_)); done))
local macro_rules | `(tactic| is_list) => `(tactic| exact News.isList (by k_asm) (by (repeat (first | assumption | with_reducible refine List.mem_cons_of_mem _ ?_)); done))
theorem law_rest {w : World} {loose : List Str} {mean : ExcName → Option Value} {mg mb : Str → Option Value} {base : Heap} {L fa : Addr} {cd : Value} {s : Shared} {Q : Flow → Shared → Prop} {E : Value → Shared → Prop} {m₀ : Str → Option Value} {ld : Addr} {w1 w2 : Obj} {vs : List Value} {e : Nat} {xs : List Str} {tq1 tq2 tb1 tb2 : Tok} {bl tb spare more : Int} (c : S2)
    (K : Below callerA base [] base) (X : (hd.heap_39 w.params).In base) (T : Top topProg loose mean mg mb base) (hC1 : CodeHd base 57 53) (hC2 : CodeHd base 50 46) (hL1 : @LT.lt Nat _ 53 L) (hL2 : @LT.lt Nat _ 46 L)
    (F : Fr base L s.heap (fun y => if y = Str.ofString "blanks" then some (.int bl tb1) else if y = Str.ofString "tabs" then some (.int tb tb2) else if y = Str.ofString "spare" then some (.int spare tq1) else if y = Str.ofString "more" then some (.int more tq2) else m₀ y))
    (N : News base L s.heap (l2Led ld L vs e w1 w2 c)) (H : L2Inv 0 c) (d2 : w2.data = .cell (some (.ref ld)))
    (hxs : StrsAre vs xs) (hlen : xs.length = 4) (n3 : @Ne Nat (L + 1 + 1 + 1) ld) (n6 : @Ne Nat ld 53) (n7 : @Ne Nat ld 46)
    (hG : ∀ i : Nat, i < 3 → GoodPair (bl + tb) (xs.getD (i : Int).toNat (Str.ofString "")) (xs.getD ((i : Int) + 1).toNat (Str.ofString "")))
    (hbl : 1 ≤ bl ∧ bl ≤ 3) (htb : 1 ≤ tb ∧ tb ≤ 3) (hs : 0 ≤ spare ∧ spare ≤ 2) (hm : 0 ≤ more ∧ more ≤ 2)
    (hPass : PassesOwn (model PySem.Challenge.rw_tv0051_01.row.prog w) (callerA.deeper (envOfC (Str.ofString "law") lawScope L fa cd)) (envOfC (Str.ofString "law") lawScope L fa cd) E)
    (hEnd : ∀ (h' : Heap) (tk' : Nat) (m' : Str → Option Value) (c' : S2), Fr base L h' m' → News base L h' (l2Led ld L vs e w1 w2 c') → L2Inv 3 c' → Q (.ret (.bool true)) { s with heap := h', toks := tk' }) :
    wpAny (model PySem.Challenge.rw_tv0051_01.row.prog w) (callerA.deeper (envOfC (Str.ofString "law") lawScope L fa cd)) (execs (lawBody.drop 15) (envOfC (Str.ofString "law") lawScope L fa cd)) Q E s := by
  conv in List.drop 15 lawBody => whnf
  conv in (occs := *) lawScope => all_goals whnf
  revert X
  k_fill
  intro X
  (repeat' (first | (k_unfold; (try dsimp only)) | ((first | (with_reducible ((with_reducible show wpAny _ _ (pyIter (Value.ref _)) (fun it s₂ => LoopAtV _ _ _ _ _ _ _ _ _ it s₂) _ _); refine mark_of ?_)) | (with_reducible (k_here; (with_reducible show wpAny _ _ (storeName _ _ _) _ _ _); k_dflt ((first | refine' stI ?F ?N ?_ ?a ?b | refine' stS ?F ?N ?_ ?a ?b | refine' stA ?F ?N ?_ ?a ?b); (case F => k_asm); (case N => k_asm); (case a => exact Eq.refl ScopeKind.function); (case b => exact Eq.refl (some NameKind.local)); k_whole; intro hqi tqi uqi Fqi Nqi; (try k_sweep)))) | (with_reducible (k_here; (with_reducible show wpAny _ _ (eval (Expr.Name _ _) _) _ _ _); k_dflt (refine' nameX_L ?F ?v ?_ ?a ?b ?d; (case F => k_asm); (case a => exact Eq.refl ScopeKind.function); (case b => exact Eq.refl (some NameKind.local)); (case d => exact Eq.refl false); (case v => exact Eq.refl (some _)); k_whole)))); (all_goals (try dsimp only))) | (walk1; (all_goals (try dsimp only))) | (dsimp only; walk1)))
  refine mark_in ?_
  (with_reducible rename News _ _ _ _ => kN; with_reducible rename Fr _ _ _ _ => kF)
  rename IsRange _ _ _ _ _ _ _ _ => kR
  k_dflt (refine' my_range2 (n := 3) (l2Led ld L vs e w1 w2) l2Ps st2 L2Inv c rfl kR (by decide) (by decide) kF (News.sub kN ?mxS) (fun p hp => nomatch hp) H ?turn ?done)
  case mxS => first | exact (fun q hq => hq) | exact (fun q hq => .tail _ hq)
  case turn =>
    intro c9 i9 t9 u9 h9 tk9 I oI hi hIO hInv hne F9 N9
    dsimp only [kstB] at F9
    exact turn2_all c9 K X T hC1 hC2 hL1 hL2 F9 N9 hInv d2 hxs hlen hi hne hIO n3 n6 n7 rfl rfl (hG i9 hi) hbl htb hs hm hPass
  case done =>
    intro c9 u9 h9 tk9 hInv F9 N9
    (repeat' (first | (k_unfold; (try dsimp only)) | ((first | (with_reducible ((with_reducible show wpAny _ _ (pyIter (Value.ref _)) (fun it s₂ => LoopAtV _ _ _ _ _ _ _ _ _ it s₂) _ _); refine mark_of ?_)) | (with_reducible (k_here; (with_reducible show wpAny _ _ (storeName _ _ _) _ _ _); k_dflt ((first | refine' stI ?F ?N ?_ ?a ?b | refine' stS ?F ?N ?_ ?a ?b | refine' stA ?F ?N ?_ ?a ?b); (case F => k_asm); (case N => k_asm); (case a => exact Eq.refl ScopeKind.function); (case b => exact Eq.refl (some NameKind.local)); k_whole; intro hqi tqi uqi Fqi Nqi; (try k_sweep)))) | (with_reducible (k_here; (with_reducible show wpAny _ _ (eval (Expr.Name _ _) _) _ _ _); k_dflt (refine' nameX_L ?F ?v ?_ ?a ?b ?d; (case F => k_asm); (case a => exact Eq.refl ScopeKind.function); (case b => exact Eq.refl (some NameKind.local)); (case d => exact Eq.refl false); (case v => exact Eq.refl (some _)); k_whole)))); (all_goals (try dsimp only))) | (walk1; (all_goals (try dsimp only))) | (dsimp only; walk1)))
    exact hEnd _ _ _ _ F9 N9 hInv
end
section
local macro_rules | `(tactic| omega) => `(tactic| first | lia | omega (config := {}))
section
open PySem PySem.W PyProof.Rows PyProof.V PySem.Spec PySem.Calls
set_option Elab.async false
set_option maxRecDepth 100000
set_option maxHeartbeats 8000000
noncomputable def blankB (x : Str) : Bool := x.cps.toList.all (fun c => c == 32 || c == 9)
theorem blankB.of {x : Str} (h : blankB x = true) : Blank x := fun c hc => by
  have := List.all_eq_true.mp h c hc
  simpa using this
noncomputable def levChk (a b : Str) (X : Int) : Bool := decide (a.length ≤ 8) && decide (b.length = a.length) && (a == b) == false && decide (1 ≤ (levA a b).length) && decide (levF a b = X) &&
  (List.range (levB a b).length).all (fun j => decide (levMin (levA a b) (levB a b) (0, rangeInts 2 2 (levA a b).length) j ≤ 3) || (decide (levMin (levA a b) (levB a b) (0, rangeInts 2 2 (levA a b).length) j ≤ 4) && decide (4 = X)))
theorem LevOk.of {a b : Str} {s X : Int} (h : levChk a b X = true) (h3 : 0 ≤ s) (h5 : s ≤ 2) : LevOk a b (3 + s) X := by
  simp only [levChk, Bool.and_eq_true, decide_eq_true_eq, List.all_eq_true, List.mem_range, Bool.or_eq_true, beq_iff_eq] at h
  obtain ⟨⟨⟨⟨⟨a1, a2⟩, a3⟩, a4⟩, a5⟩, a6⟩ := h
  refine ⟨a1, a2, by omega, by omega, a3, a4, a5, fun j hj => ?_⟩
  rcases a6 j hj with h | ⟨h, h'⟩
  · exact .inl (by omega)
  · by_cases q : s = 0
    · exact .inr (by omega)
    · exact .inl (by omega)
noncomputable def apX (lead : Str) (p : Int) : Int := if mcF lead = 1 ∧ Txt.item lead 0 = Str.ofString "\t" ∧ Txt.item lead p = Str.ofString " " then 4 else 2
noncomputable def othChk (lead behind : Str) (p more : Int) : Bool := decide ((othF behind more).length ≤ 10) && blankB (othF behind more) && (((mcF lead == 1) && (Txt.item lead p == Str.ofString " ")) ||
    decide ((wsRun lead lead.length).2.2.2 = (wsRun (othF behind more) (othF behind more).length).2.2.2 ∧ (wsRun lead lead.length).1 = (wsRun (othF behind more) (othF behind more).length).1) == ((mcF lead == 1) && (more == 0)))
noncomputable def pairChk (n : Int) (lead behind : Str) (p : Int) : Bool :=
  decide ((lead.length : Int) = n) && decide (behind.length = lead.length) && blankB lead && blankB behind && (begs lead lead.length).all (fun y => decide (y.length ≤ 10) && blankB y) && decide (1 ≤ p ∧ p < lead.length) &&
  (Txt.item lead p ++ Txt.slice lead none (some p) ++ Txt.slice lead (some (p + 1)) none == behind) &&
  (bisF (fun i => (crk lead lead.length p).getD i 0) 10 1 ((crk lead lead.length p).length : Nat) == 2 - (crk lead lead.length p).getD ((crk lead lead.length p).length - 1) 0) &&
  decide (Builtin.Int.intBits (2 ^ p.toNat) ≤ 100) && decide (Builtin.Int.intBits (numF lead) ≤ 3 * Builtin.Int.intBits (2 ^ p.toNat)) && decide (strip (bitsF behind) ≠ []) &&
  decide (0 ≤ nextF lead p) && decide (Builtin.Int.intBits (nextF lead p) ≤ 6) && decide (digs (2 ^ (1 : Int).toNat) (nextF lead p) (ndig (nextF lead p) 1) = strip (bitsF behind)) && decide (Builtin.Int.intBits (numF lead) ≤ 100) &&
  levChk lead behind 4 && levChk (lettersF behind) (lettersF lead) (apX lead p) && othChk lead behind p 0 && othChk lead behind p 1 && othChk lead behind p 2
theorem othChk.of {lead behind : Str} {p more : Int} (h : othChk lead behind p more = true) : (othF behind more).length ≤ 10 ∧ Blank (othF behind more) ∧ (((mcF lead == 1) && (Txt.item lead p == Str.ofString " ")) = false →
    decide ((wsRun lead lead.length).2.2.2 = (wsRun (othF behind more) (othF behind more).length).2.2.2 ∧ (wsRun lead lead.length).1 = (wsRun (othF behind more) (othF behind more).length).1) = ((mcF lead == 1) && (more == 0))) := by
  unfold othChk at h
  rw [Bool.and_eq_true, Bool.and_eq_true, decide_eq_true_eq] at h
  obtain ⟨⟨a1, a2⟩, a3⟩ := h
  refine ⟨a1, blankB.of a2, fun q => ?_⟩
  rw [q, Bool.false_or] at a3
  exact eq_of_beq a3
theorem GoodPair.of {n : Int} {lead behind : Str} (h : pairChk n lead behind (plF lead lead.length) = true) : GoodPair n lead behind := by
  unfold pairChk at h
  simp only [Bool.and_eq_true] at h
  obtain ⟨⟨⟨⟨⟨⟨⟨⟨⟨⟨⟨⟨⟨⟨⟨⟨⟨⟨⟨a1, a2⟩, a3⟩, a4⟩, a5⟩, a6⟩, a7⟩, a8⟩, a9⟩, a10⟩, a11⟩, a12⟩, a13⟩, a14⟩, a15⟩, a16⟩, a17⟩, a18⟩, a19⟩, a20⟩ := h
  exact { l1 := of_decide_eq_true a1, l2 := of_decide_eq_true a2, b1 := blankB.of a3, b2 := blankB.of a4,
          g1 := fun y hy => by
            have := List.all_eq_true.mp a5 y hy
            rw [Bool.and_eq_true] at this
            exact ⟨of_decide_eq_true this.1, blankB.of this.2⟩
          g2 := of_decide_eq_true a6
          g3 := by rw [bne, a7]; rfl
          g4 := by rw [bne, a8]; rfl
          g5 := ⟨Int.ne_of_gt (p2_pos _), Nat.le_trans (of_decide_eq_true a9) (by decide), of_decide_eq_true a10⟩
          g6 := of_decide_eq_true a11
          g7 := ⟨of_decide_eq_true a12, by decide, by decide, by have := of_decide_eq_true a13; omega⟩
          g8 := of_decide_eq_true a14
          g9 := of_decide_eq_true a15
          v1 := fun s h0 h2 => LevOk.of a16 h0 h2
          v2 := fun s h0 h2 => LevOk.of a17 h0 h2
          o1 := fun m h0 h2 => by
            rcases (by omega : m = 0 ∨ m = 1 ∨ m = 2) with e | e | e <;> subst e
            · exact othChk.of a18
            · exact othChk.of a19
            · exact othChk.of a20 }
noncomputable def leadN (bl tb : Int) (q : Nat) : Str := leadF 6 bl tb (q : Int) (Str.ofString "")
noncomputable def oneChk (bl tb : Int) (ev q : Nat) : Bool := pairChk (bl + tb) (leadN bl tb q) (leadN bl tb ((q + 1) % ev)) (plF (leadN bl tb q) (leadN bl tb q).length)
theorem chk11_0 : (List.range' 0 2).all (oneChk 1 1 2) = true := by decide +kernel
theorem chk12_0 : (List.range' 0 3).all (oneChk 1 2 3) = true := by decide +kernel
theorem chk13_0 : (List.range' 0 4).all (oneChk 1 3 4) = true := by decide +kernel
theorem chk21_0 : (List.range' 0 3).all (oneChk 2 1 3) = true := by decide +kernel
theorem chk22_0 : (List.range' 0 5).all (oneChk 2 2 6) = true := by decide +kernel
theorem chk22_5 : (List.range' 5 1).all (oneChk 2 2 6) = true := by decide +kernel
theorem chk23_0 : (List.range' 0 5).all (oneChk 2 3 10) = true := by decide +kernel
theorem chk23_5 : (List.range' 5 5).all (oneChk 2 3 10) = true := by decide +kernel
theorem chk31_0 : (List.range' 0 4).all (oneChk 3 1 4) = true := by decide +kernel
theorem chk32_0 : (List.range' 0 5).all (oneChk 3 2 10) = true := by decide +kernel
theorem chk32_5 : (List.range' 5 5).all (oneChk 3 2 10) = true := by decide +kernel
theorem chk33_0 : (List.range' 0 5).all (oneChk 3 3 20) = true := by decide +kernel
theorem chk33_5 : (List.range' 5 5).all (oneChk 3 3 20) = true := by decide +kernel
theorem chk33_10 : (List.range' 10 5).all (oneChk 3 3 20) = true := by decide +kernel
theorem chk33_15 : (List.range' 15 5).all (oneChk 3 3 20) = true := by decide +kernel
theorem all_part {f : Nat → Bool} {a n : Nat} (h : (List.range' a n).all f = true) {q : Nat} (h0 : a ≤ q) (h1 : q < a + n) : f q = true :=
  List.all_eq_true.mp h q (List.mem_range'_1.mpr ⟨h0, h1⟩)
theorem chF_11 : chF (1 + 1) 1 = 2 := by decide +kernel
theorem chF_12 : chF (1 + 2) 2 = 3 := by decide +kernel
theorem chF_13 : chF (1 + 3) 3 = 4 := by decide +kernel
theorem chF_21 : chF (2 + 1) 1 = 3 := by decide +kernel
theorem chF_22 : chF (2 + 2) 2 = 6 := by decide +kernel
theorem chF_23 : chF (2 + 3) 3 = 10 := by decide +kernel
theorem chF_31 : chF (3 + 1) 1 = 4 := by decide +kernel
theorem chF_32 : chF (3 + 2) 2 = 10 := by decide +kernel
theorem chF_33 : chF (3 + 3) 3 = 20 := by decide +kernel
theorem one_good {bl tb : Int} (hb : 1 ≤ bl ∧ bl ≤ 3) (ht : 1 ≤ tb ∧ tb ≤ 3) {ev : Int} (he : ev = chF (bl + tb) tb) {q : Nat} (hq : (q : Int) < ev) : GoodPair (bl + tb) (leadN bl tb q) (leadN bl tb ((q + 1) % ev.toNat)) := by
  rcases (by omega : bl = 1 ∨ bl = 2 ∨ bl = 3) with e1 | e1 | e1 <;> rcases (by omega : tb = 1 ∨ tb = 2 ∨ tb = 3) with e2 | e2 | e2 <;> subst e1 <;> subst e2
  · rw [chF_11] at he
    subst he
    refine GoodPair.of ?_
    exact all_part chk11_0 (by omega) (by omega)
  · rw [chF_12] at he
    subst he
    refine GoodPair.of ?_
    exact all_part chk12_0 (by omega) (by omega)
  · rw [chF_13] at he
    subst he
    refine GoodPair.of ?_
    exact all_part chk13_0 (by omega) (by omega)
  · rw [chF_21] at he
    subst he
    refine GoodPair.of ?_
    exact all_part chk21_0 (by omega) (by omega)
  · rw [chF_22] at he
    subst he
    refine GoodPair.of ?_
    rcases (by omega : (0 ≤ q ∧ q < 5) ∨ (5 ≤ q ∧ q < 6)) with ⟨h1, h2⟩ | ⟨h1, h2⟩
    · exact all_part chk22_0 h1 (by omega)
    · exact all_part chk22_5 h1 (by omega)
  · rw [chF_23] at he
    subst he
    refine GoodPair.of ?_
    rcases (by omega : (0 ≤ q ∧ q < 5) ∨ (5 ≤ q ∧ q < 10)) with ⟨h1, h2⟩ | ⟨h1, h2⟩
    · exact all_part chk23_0 h1 (by omega)
    · exact all_part chk23_5 h1 (by omega)
  · rw [chF_31] at he
    subst he
    refine GoodPair.of ?_
    exact all_part chk31_0 (by omega) (by omega)
  · rw [chF_32] at he
    subst he
    refine GoodPair.of ?_
    rcases (by omega : (0 ≤ q ∧ q < 5) ∨ (5 ≤ q ∧ q < 10)) with ⟨h1, h2⟩ | ⟨h1, h2⟩
    · exact all_part chk32_0 h1 (by omega)
    · exact all_part chk32_5 h1 (by omega)
  · rw [chF_33] at he
    subst he
    refine GoodPair.of ?_
    rcases (by omega : (0 ≤ q ∧ q < 5) ∨ (5 ≤ q ∧ q < 10) ∨ (10 ≤ q ∧ q < 15) ∨ (15 ≤ q ∧ q < 20)) with ⟨h1, h2⟩ | ⟨h1, h2⟩ | ⟨h1, h2⟩ | ⟨h1, h2⟩
    · exact all_part chk33_0 h1 (by omega)
    · exact all_part chk33_5 h1 (by omega)
    · exact all_part chk33_10 h1 (by omega)
    · exact all_part chk33_15 h1 (by omega)
theorem plc_up {ev : Int} (he : 0 < ev) (h : Int) : plc 1 ev h = h % ev := by
  unfold plc
  rw [Int.one_mul, Int.one_mul, Int.fmod_eq_emod_of_nonneg _ (by omega)]
theorem plc_dn {ev : Int} (he : 0 < ev) (h : Int) : plc (-1) ev h = (-h) % ev := by
  unfold plc
  have e1 : (-1 : Int) * ev = -ev := by omega
  rw [e1]
  obtain ⟨c1, c2⟩ := neg_pair (a := h) (b := -ev) (by omega)
  rw [c2, Int.neg_neg, Int.fmod_eq_emod_of_nonneg _ (by omega)]
  omega
theorem step_good {bl tb : Int} (hb : 1 ≤ bl ∧ bl ≤ 3) (ht : 1 ≤ tb ∧ tb ≤ 3) {ev : Int} (he : ev = chF (bl + tb) tb) (h0 : 0 < ev) (x y : Int) (hxy : y % ev = (x + 1) % ev) :
    GoodPair (bl + tb) (leadF 6 bl tb (x % ev) (Str.ofString "")) (leadF 6 bl tb (y % ev) (Str.ofString "")) := by
  have k1 := Int.emod_nonneg x (show ev ≠ 0 by omega)
  have k2 := Int.emod_lt_of_pos x h0
  have G := one_good hb ht he (q := (x % ev).toNat) (by omega)
  unfold leadN at G
  have e1 : (((x % ev).toNat : Nat) : Int) = x % ev := by omega
  have e2 : ((((x % ev).toNat + 1) % ev.toNat : Nat) : Int) = y % ev := by
    rw [Int.natCast_emod, Int.natCast_add, e1, show ((ev.toNat : Nat) : Int) = ev by omega, hxy]
    exact Int.emod_add_emod x ev 1
  rw [e1, e2] at G
  exact G
/-- the leads of four hours, in the order asked -/
theorem good_up {bl tb ev : Int} (hb : 1 ≤ bl ∧ bl ≤ 3) (ht : 1 ≤ tb ∧ tb ≤ 3) (he : ev = chF (bl + tb) tb) (h0 : 0 < ev) (h : Int) :
    GoodPair (bl + tb) (leadF 6 bl tb (plc 1 ev h) (Str.ofString "")) (leadF 6 bl tb (plc 1 ev (h + 1)) (Str.ofString "")) := by
  rw [plc_up h0, plc_up h0]
  exact step_good hb ht he h0 _ _ rfl
theorem good_dn {bl tb ev : Int} (hb : 1 ≤ bl ∧ bl ≤ 3) (ht : 1 ≤ tb ∧ tb ≤ 3) (he : ev = chF (bl + tb) tb) (h0 : 0 < ev) (h : Int) :
    GoodPair (bl + tb) (leadF 6 bl tb (plc (-1) ev (h + 1)) (Str.ofString "")) (leadF 6 bl tb (plc (-1) ev h) (Str.ofString "")) := by
  rw [plc_dn h0, plc_dn h0]
  exact step_good hb ht he h0 _ _ (by rw [show -(h + 1) + 1 = -h by omega])
end
section
open PySem PySem.W PyProof.Rows PyProof.V PySem.Spec PySem.Calls
set_option Elab.async false
set_option maxRecDepth 100000
set_option maxHeartbeats 8000000
theorem up_all {bl tb ev sd hr : Int} {xs : List Str} (hb : 1 ≤ bl ∧ bl ≤ 3) (ht : 1 ≤ tb ∧ tb ≤ 3) (he : ev = chF (bl + tb) tb) (h0 : 0 < ev) (hs : sd = 1) (hx : xs = (List.range 4).map fun j : Nat => leadF 6 bl tb (plc sd ev (hr + (j : Int))) (Str.ofString "")) (i : Nat) (hi : i < 3) :
    GoodPair (bl + tb) (xs.getD (i : Int).toNat (Str.ofString "")) (xs.getD ((i : Int) + 1).toNat (Str.ofString "")) := by
  subst hs hx
  rcases (by omega : i = 0 ∨ i = 1 ∨ i = 2) with e | e | e <;> subst e
  · have := good_up hb ht he h0 (hr + ((0 : Nat) : Int))
    rw [show hr + ((0 : Nat) : Int) + 1 = hr + ((1 : Nat) : Int) by omega] at this
    exact this
  · have := good_up hb ht he h0 (hr + ((1 : Nat) : Int))
    rw [show hr + ((1 : Nat) : Int) + 1 = hr + ((2 : Nat) : Int) by omega] at this
    exact this
  · have := good_up hb ht he h0 (hr + ((2 : Nat) : Int))
    rw [show hr + ((2 : Nat) : Int) + 1 = hr + ((3 : Nat) : Int) by omega] at this
    exact this
noncomputable def revF (xs : List Str) (k : Nat) : Str := xs.getD ((3 : Int) - (k : Int)).toNat (Str.ofString "")
theorem dn_all {bl tb ev sd hr : Int} {xs ys : List Str} (hb : 1 ≤ bl ∧ bl ≤ 3) (ht : 1 ≤ tb ∧ tb ≤ 3) (he : ev = chF (bl + tb) tb) (h0 : 0 < ev) (hs : sd = -1) (hx : xs = (List.range 4).map fun j : Nat => leadF 6 bl tb (plc sd ev (hr + (j : Int))) (Str.ofString "")) (hy : ys = (List.range 4).map (revF xs)) (i : Nat) (hi : i < 3) :
    GoodPair (bl + tb) (ys.getD (i : Int).toNat (Str.ofString "")) (ys.getD ((i : Int) + 1).toNat (Str.ofString "")) := by
  subst hs hy hx
  rcases (by omega : i = 0 ∨ i = 1 ∨ i = 2) with e | e | e <;> subst e
  · have := good_dn hb ht he h0 (hr + ((2 : Nat) : Int))
    rw [show hr + ((2 : Nat) : Int) + 1 = hr + ((3 : Nat) : Int) by omega] at this
    exact this
  · have := good_dn hb ht he h0 (hr + ((1 : Nat) : Int))
    rw [show hr + ((1 : Nat) : Int) + 1 = hr + ((2 : Nat) : Int) by omega] at this
    exact this
  · have := good_dn hb ht he h0 (hr + ((0 : Nat) : Int))
    rw [show hr + ((0 : Nat) : Int) + 1 = hr + ((1 : Nat) : Int) by omega] at this
    exact this
theorem Fr.as4 {h₀ h : Heap} {L : Addr} {m : Str → Option Value} {a b c d : Str} {va vb vc vd : Value} (F : Fr h₀ L h m) (ha : m a = some va) (hb : m b = some vb) (hc : m c = some vc) (hd : m d = some vd) :
    Fr h₀ L h (fun y => if y = a then some va else if y = b then some vb else if y = c then some vc else if y = d then some vd else m y) :=
  Fr.cong F (one_if ha _ fun y _ => one_if hb _ (fun y _ => one_if hc _ (fun y _ => one_if hd m (fun y _ => rfl) y) y) y)
end
end
end
section
open PySem PySem.W PyProof.Rows
set_option Elab.async false
set_option maxRecDepth 100000
set_option maxHeartbeats 8000000
local macro_rules | `(tactic| omega) => `(tactic| first | with_reducible assumption | ((with_reducible show (@Ne Nat _ _)); (repeat (with_reducible rename (And (@LT.lt Nat _ _ _) _) => hq9; first | with_reducible exact Nat.ne_of_gt hq9.1 | with_reducible exact Nat.ne_of_lt hq9.1 | with_reducible exact Nat.ne_of_gt hq9.2.1 | with_reducible exact Nat.ne_of_lt hq9.2.1 | with_reducible exact Nat.ne_of_gt hq9.2.2.1 | with_reducible exact Nat.ne_of_lt hq9.2.2.1 | with_reducible exact Nat.ne_of_gt hq9.2.2.2.1 | with_reducible exact Nat.ne_of_lt hq9.2.2.2.1 | with_reducible exact Nat.ne_of_gt hq9.2.2.2.2.1 | with_reducible exact Nat.ne_of_lt hq9.2.2.2.2.1 | with_reducible exact Nat.ne_of_gt hq9.2.2.2.2.2.1 | with_reducible exact Nat.ne_of_lt hq9.2.2.2.2.2.1 | with_reducible exact Nat.ne_of_gt hq9.2.2.2.2.2.2.1 | with_reducible exact Nat.ne_of_lt hq9.2.2.2.2.2.2.1 | with_reducible exact Nat.ne_of_gt hq9.2.2.2.2.2.2.2.1 | with_reducible exact Nat.ne_of_lt hq9.2.2.2.2.2.2.2.1 | with_reducible exact Nat.ne_of_gt hq9.2.2.2.2.2.2.2.2.1 | with_reducible exact Nat.ne_of_lt hq9.2.2.2.2.2.2.2.2.1 | with_reducible exact Nat.ne_of_gt hq9.2.2.2.2.2.2.2.2.2.1 | with_reducible exact Nat.ne_of_lt hq9.2.2.2.2.2.2.2.2.2.1 | clear hq9)); done) | ((with_reducible show (@Ne Nat _ _)); (repeat (with_reducible rename (And (@Ne Nat _ _) _) => hq9; first | with_reducible exact hq9.1 | with_reducible exact Ne.symm hq9.1 | with_reducible exact hq9.2.1 | with_reducible exact Ne.symm hq9.2.1 | with_reducible exact hq9.2.2.1 | with_reducible exact Ne.symm hq9.2.2.1 | with_reducible exact hq9.2.2.2.1 | with_reducible exact Ne.symm hq9.2.2.2.1 | with_reducible exact hq9.2.2.2.2.1 | with_reducible exact Ne.symm hq9.2.2.2.2.1 | with_reducible exact hq9.2.2.2.2.2.1 | with_reducible exact Ne.symm hq9.2.2.2.2.2.1 | with_reducible exact hq9.2.2.2.2.2.2.1 | with_reducible exact Ne.symm hq9.2.2.2.2.2.2.1 | with_reducible exact hq9.2.2.2.2.2.2.2.1 | with_reducible exact Ne.symm hq9.2.2.2.2.2.2.2.1 | with_reducible exact hq9.2.2.2.2.2.2.2.2.1 | with_reducible exact Ne.symm hq9.2.2.2.2.2.2.2.2.1 | with_reducible exact hq9.2.2.2.2.2.2.2.2.2.1 | with_reducible exact Ne.symm hq9.2.2.2.2.2.2.2.2.2.1 | clear hq9)); done) | omega (config := { splitDisjunctions := false, splitNatSub := false, splitNatAbs := false, splitMinMax := false }) | ((repeat (with_reducible rename (@Ne Nat _ _) => hq9; clear hq9)); (repeat (with_reducible rename (@Ne Int _ _) => hq9; clear hq9)); (repeat (with_reducible rename (And (@Ne Nat _ _) _) => hq9; clear hq9)); (repeat (with_reducible rename (And (And (@Ne Nat _ _) _) _) => hq9; clear hq9)); omega (config := {})) | omega (config := {}))
local macro_rules | `(tactic| k_mem) => `(tactic| ((repeat (first | with_reducible assumption | with_reducible refine List.mem_cons_of_mem _ ?_)); done))
local macro_rules | `(tactic| is_list) => `(tactic| exact News.isList (by k_asm) (by (repeat (first | assumption | with_reducible refine List.mem_cons_of_mem _ ?_)); done))
local macro_rules | `(tactic| k_all) => `(tactic| exact off1_ne (by assumption))
local macro_rules | `(tactic| walk_at "CompSrc") => `(tactic| (k_here; (with_reducible rename (@Eq Int _ (-1)) => hNeg); refine mark_of ?_))
theorem probe : PySem.Challenge.rw_tv0051_01.Holds := by
  refine holds_law hd.said fun said => ?_
  refine holds_open (q := hd.view_39) (loose := [Str.ofString "bisect_left", Str.ofString "Whitespace"]) (Xt := fun s => xlAt hd.view_39 [] s && recOk (RowW.records PySem.Challenge.rw_tv0051_01.row.toRowW) s) (XP := XL hd.view_39 []) (Yf := (kmHook hd.heap_39 (2 :: 3 :: 15 :: 17 :: 18 :: 20 :: 21 :: 22 :: 23 :: 24 :: 26 :: 27 :: 29 :: 30 :: 31 :: 33 :: 34 :: 36 :: 37 :: 38 :: 40 :: 41 :: 43 :: 44 :: 45 :: 47 :: 48 :: 50 :: 51 :: 52 :: 54 :: 55 :: 57 :: 58 :: 59 :: 61 :: 62 :: 64 :: 65 :: 66 :: 68 :: 69 :: 71 :: 72 :: 83 :: 85 :: 86 :: 88 :: 89 :: 90 :: 92 :: 93 :: 95 :: 96 :: 97 :: 99 :: 100 :: 102 :: 103 :: 104 :: 106 :: 107 :: 109 :: 110 :: 111 :: 113 :: 114 :: 116 :: 117 :: 118 :: 120 :: 121 :: 123 :: 124 :: 125 :: 127 :: 128 :: 130 :: 131 :: 132 :: 133 :: 134 :: 135 :: 136 :: 139 :: 141 :: 142 :: 144 :: 145 :: 146 :: 148 :: 149 :: 151 :: 152 :: 153 :: 155 :: 156 :: 158 :: 159 :: 160 :: 162 :: 163 :: 165 :: 166 :: 167 :: 169 :: 170 :: 172 :: 173 :: 174 :: 177 :: 178 :: 179 :: 182 :: 183 :: 184 :: 187 :: 188 :: []) hd.at_eq [53, 46]).obs) (Ya := (kmHook hd.heap_39 (2 :: 3 :: 15 :: 17 :: 18 :: 20 :: 21 :: 22 :: 23 :: 24 :: 26 :: 27 :: 29 :: 30 :: 31 :: 33 :: 34 :: 36 :: 37 :: 38 :: 40 :: 41 :: 43 :: 44 :: 45 :: 47 :: 48 :: 50 :: 51 :: 52 :: 54 :: 55 :: 57 :: 58 :: 59 :: 61 :: 62 :: 64 :: 65 :: 66 :: 68 :: 69 :: 71 :: 72 :: 83 :: 85 :: 86 :: 88 :: 89 :: 90 :: 92 :: 93 :: 95 :: 96 :: 97 :: 99 :: 100 :: 102 :: 103 :: 104 :: 106 :: 107 :: 109 :: 110 :: 111 :: 113 :: 114 :: 116 :: 117 :: 118 :: 120 :: 121 :: 123 :: 124 :: 125 :: 127 :: 128 :: 130 :: 131 :: 132 :: 133 :: 134 :: 135 :: 136 :: 139 :: 141 :: 142 :: 144 :: 145 :: 146 :: 148 :: 149 :: 151 :: 152 :: 153 :: 155 :: 156 :: 158 :: 159 :: 160 :: 162 :: 163 :: 165 :: 166 :: 167 :: 169 :: 170 :: 172 :: 173 :: 174 :: 177 :: 178 :: 179 :: 182 :: 183 :: 184 :: 187 :: 188 :: []) hd.at_eq [53, 46]).val) (YP := (kmHook hd.heap_39 (2 :: 3 :: 15 :: 17 :: 18 :: 20 :: 21 :: 22 :: 23 :: 24 :: 26 :: 27 :: 29 :: 30 :: 31 :: 33 :: 34 :: 36 :: 37 :: 38 :: 40 :: 41 :: 43 :: 44 :: 45 :: 47 :: 48 :: 50 :: 51 :: 52 :: 54 :: 55 :: 57 :: 58 :: 59 :: 61 :: 62 :: 64 :: 65 :: 66 :: 68 :: 69 :: 71 :: 72 :: 83 :: 85 :: 86 :: 88 :: 89 :: 90 :: 92 :: 93 :: 95 :: 96 :: 97 :: 99 :: 100 :: 102 :: 103 :: 104 :: 106 :: 107 :: 109 :: 110 :: 111 :: 113 :: 114 :: 116 :: 117 :: 118 :: 120 :: 121 :: 123 :: 124 :: 125 :: 127 :: 128 :: 130 :: 131 :: 132 :: 133 :: 134 :: 135 :: 136 :: 139 :: 141 :: 142 :: 144 :: 145 :: 146 :: 148 :: 149 :: 151 :: 152 :: 153 :: 155 :: 156 :: 158 :: 159 :: 160 :: 162 :: 163 :: 165 :: 166 :: 167 :: 169 :: 170 :: 172 :: 173 :: 174 :: 177 :: 178 :: 179 :: 182 :: 183 :: 184 :: 187 :: 188 :: []) hd.at_eq [53, 46]).says) (N := 2304) hd.left (kmHook hd.heap_39 (2 :: 3 :: 15 :: 17 :: 18 :: 20 :: 21 :: 22 :: 23 :: 24 :: 26 :: 27 :: 29 :: 30 :: 31 :: 33 :: 34 :: 36 :: 37 :: 38 :: 40 :: 41 :: 43 :: 44 :: 45 :: 47 :: 48 :: 50 :: 51 :: 52 :: 54 :: 55 :: 57 :: 58 :: 59 :: 61 :: 62 :: 64 :: 65 :: 66 :: 68 :: 69 :: 71 :: 72 :: 83 :: 85 :: 86 :: 88 :: 89 :: 90 :: 92 :: 93 :: 95 :: 96 :: 97 :: 99 :: 100 :: 102 :: 103 :: 104 :: 106 :: 107 :: 109 :: 110 :: 111 :: 113 :: 114 :: 116 :: 117 :: 118 :: 120 :: 121 :: 123 :: 124 :: 125 :: 127 :: 128 :: 130 :: 131 :: 132 :: 133 :: 134 :: 135 :: 136 :: 139 :: 141 :: 142 :: 144 :: 145 :: 146 :: 148 :: 149 :: 151 :: 152 :: 153 :: 155 :: 156 :: 158 :: 159 :: 160 :: 162 :: 163 :: 165 :: 166 :: 167 :: 169 :: 170 :: 172 :: 173 :: 174 :: 177 :: 178 :: 179 :: 182 :: 183 :: 184 :: 187 :: 188 :: []) hd.at_eq [53, 46]).of (kmHook hd.heap_39 (2 :: 3 :: 15 :: 17 :: 18 :: 20 :: 21 :: 22 :: 23 :: 24 :: 26 :: 27 :: 29 :: 30 :: 31 :: 33 :: 34 :: 36 :: 37 :: 38 :: 40 :: 41 :: 43 :: 44 :: 45 :: 47 :: 48 :: 50 :: 51 :: 52 :: 54 :: 55 :: 57 :: 58 :: 59 :: 61 :: 62 :: 64 :: 65 :: 66 :: 68 :: 69 :: 71 :: 72 :: 83 :: 85 :: 86 :: 88 :: 89 :: 90 :: 92 :: 93 :: 95 :: 96 :: 97 :: 99 :: 100 :: 102 :: 103 :: 104 :: 106 :: 107 :: 109 :: 110 :: 111 :: 113 :: 114 :: 116 :: 117 :: 118 :: 120 :: 121 :: 123 :: 124 :: 125 :: 127 :: 128 :: 130 :: 131 :: 132 :: 133 :: 134 :: 135 :: 136 :: 139 :: 141 :: 142 :: 144 :: 145 :: 146 :: 148 :: 149 :: 151 :: 152 :: 153 :: 155 :: 156 :: 158 :: 159 :: 160 :: 162 :: 163 :: 165 :: 166 :: 167 :: 169 :: 170 :: 172 :: 173 :: 174 :: 177 :: 178 :: 179 :: 182 :: 183 :: 184 :: 187 :: 188 :: []) hd.at_eq [53, 46]).keeps (fun s e => xl_of s (Bool.and_eq_true_iff.mp e).1) XL.keeps (hdef := by rfl) (hp := by rfl) (hk := by rfl) (fun s e => recFacts_of (Bool.and_eq_true_iff.mp e).2) (by rfl) said hd.ok hd.bare hd.prom ?hc
  case hc =>
  k_go0
  (repeat' (first | (k_unfold; (try dsimp only)) | ((first | (with_reducible ((with_reducible show wpAny _ _ (pyIter (Value.ref _)) (fun it s₂ => LoopAtV _ _ _ _ _ _ _ _ _ it s₂) _ _); refine mark_of ?_)) | (with_reducible (k_here; (with_reducible show wpAny _ _ (exec (Stmt.If (Expr.Compare (Expr.BinOp (Expr.BinOp _ Operator.FloorDiv _ _) Operator.Mod _ _) _ _ _) _ _ _) _) _ _ _); refine mark_of ?_)) | (with_reducible (k_here; (with_reducible show wpAny _ _ (subscriptTail _ _ (Value.ref _) (Value.int _ _)) _ _ _); (with_unfolding_all refine' strs_item_eq ?k1 ?k2 ?k3 ?k4 ?k5 ?kE ?_ ?k6; (case k1 => exact News.isList (by k_asm) (by k_mem)); (case k2 => assumption); (case k3 => omega); (case k4 => omega); (case k5 => omega); (case kE => exact rfl); (case k6 => with_unfolding_all rfl); k_whole); intro t9qi)) | (with_reducible (k_here; (with_reducible show wpAny _ _ (execs [Stmt.For _ _ _ _ _, Stmt.Return _ _] _) _ _ _); refine mark_of ?_)) | (with_reducible (k_here; with_reducible refine mod_int' (by assumption) ?_)) | (with_reducible (k_here; with_reducible refine floordiv_int (by assumption) ?_ (Or.inl (PyProof.noPylong_of_log2 (by assumption))))) | (with_reducible (k_here; with_reducible refine mul_int ?_ (mulOk_of_bits (by assumption) (by assumption) (by decide)))) | (with_reducible (k_here; (with_reducible show wpAny _ _ (call (Value.builtin _) [Value.ref _, _]) _ _ _); k_dflt (refine' append_K ?k1 ?k2 ?k3 ?_ ?z; (case k1 => k_asm); (case k2 => k_asm); (case k3 => k_upd); (case z => exact small_size3 (by assumption) (by assumption)); k_whole); intro hqi Fqi Nqi; (try k_sweep))) | (with_reducible (k_here; (with_reducible show wpAny _ _ (call (Value.ref 166) _) _ _ _); refine mark_of ?_)) | (with_reducible (k_here; (with_reducible show wpAny _ _ (call (Value.ref 72) _) _ _ _); refine mark_of ?_)) | (with_reducible (k_here; (with_reducible show wpAny _ _ (call (Value.ref 159) _) _ _ _); refine mark_of ?_)) | (with_reducible (k_here; (with_reducible show wpAny _ _ (storeName _ _ _) _ _ _); k_dflt ((first | refine' stI ?F ?N ?_ ?a ?b | refine' stS ?F ?N ?_ ?a ?b | refine' stA ?F ?N ?_ ?a ?b); (case F => k_asm); (case N => k_asm); (case a => exact Eq.refl ScopeKind.function); (case b => exact Eq.refl (some NameKind.local)); k_whole; intro hqi tqi uqi Fqi Nqi; (try k_sweep)))) | (with_reducible (k_here; (with_reducible show wpAny _ _ (eval (Expr.Name _ _) _) _ _ _); k_dflt (refine' nameX_L ?F ?v ?_ ?a ?b ?d; (case F => k_asm); (case a => exact Eq.refl ScopeKind.function); (case b => exact Eq.refl (some NameKind.local)); (case d => exact Eq.refl false); (case v => exact Eq.refl (some _)); k_whole)))); (all_goals (try dsimp only))) | (walk1; (all_goals (try dsimp only))) | (dsimp only; walk1)))
  rename List Int => script
  (with_reducible rename News _ _ _ _ => kN; with_reducible rename Fr _ _ _ _ => kF)
  obtain ⟨bl, hbl⟩ : ∃ v : Int, v = 1 + (([1, 1, 999996] : List Int).getD ((0 : Int) + 0).toNat 0 + (script ++ [0, 0, 0]).getD ((0 : Int) + 0).toNat 0).fmod 3 := ⟨_, rfl⟩
  obtain ⟨tb, htb⟩ : ∃ v : Int, v = 1 + (([1, 1, 999996] : List Int).getD ((0 : Int) + 1).toNat 0 + (script ++ [0, 0, 0]).getD ((0 : Int) + 1).toNat 0).fmod 3 := ⟨_, rfl⟩
  obtain ⟨hr, hhr⟩ : ∃ v : Int, v = (([1, 1, 999996] : List Int).getD ((0 : Int) + 2).toNat 0 + (script ++ [0, 0, 0]).getD ((0 : Int) + 2).toNat 0).fmod 2000001 - 10 ^ Int.toNat 6 := ⟨_, rfl⟩
  obtain ⟨tot, htot⟩ : ∃ v : Int, v = script.sum := ⟨_, rfl⟩
  rw [← hbl, ← htb, ← hhr, ← htot] at kF
  rw [← hbl, ← htb]
  obtain ⟨b1, b2⟩ := fmod_rng (([1, 1, 999996] : List Int).getD ((0 : Int) + 0).toNat 0 + (script ++ [0, 0, 0]).getD ((0 : Int) + 0).toNat 0) (c := 3) (by decide)
  obtain ⟨b3, b4⟩ := fmod_rng (([1, 1, 999996] : List Int).getD ((0 : Int) + 1).toNat 0 + (script ++ [0, 0, 0]).getD ((0 : Int) + 1).toNat 0) (c := 3) (by decide)
  obtain ⟨b5, b6⟩ := fmod_rng (([1, 1, 999996] : List Int).getD ((0 : Int) + 2).toNat 0 + (script ++ [0, 0, 0]).getD ((0 : Int) + 2).toNat 0) (c := 2000001) (by decide)
  have hb1 : 1 ≤ bl := by omega
  have hb2 : bl ≤ 3 := by omega
  have ht1 : 1 ≤ tb := by omega
  have ht2 : tb ≤ 3 := by omega
  have e10 : (10 : Int) ^ Int.toNat 6 = 1000000 := by decide
  rw [e10] at hhr
  have hh1 : -1000000 ≤ hr := by omega
  have hh2 : hr ≤ 1000000 := by omega
  clear hbl htb hhr b1 b2 b3 b4 b5 b6
  refine mark_in ?_
  k_dflt (refine' (choose_c (bl + tb) tb _ _).use ?k1 ?k2 ?k3 ?k4 ?k5 ?kK ?kp ?kd ?ku ?_; (case k1 => k_asm); (case k2 => k_asm); (case k3 => k_asm); (case k4 => k_asm); (case k5 => k_asm); (case kK => first | exact rfl | assumption))
  case kp => exact ⟨by omega, by omega, by omega, by omega⟩
  case kd => exact Nat.le_of_ble_eq_true rfl
  case ku => exact Nat.le_of_ble_eq_true rfl
  intro t9 h9 tk9 g9 F9 N9
  try dsimp only
  obtain ⟨ge1, ge2⟩ := g9 (by omega)
  clear g9 kF kN
  obtain ⟨ev, hev⟩ : ∃ v : Int, v = chF (bl + tb) tb := ⟨_, rfl⟩
  rw [← hev] at ge1 ge2 ⊢
  (repeat' (first | (k_unfold; (try dsimp only)) | ((first | (with_reducible ((with_reducible show wpAny _ _ (pyIter (Value.ref _)) (fun it s₂ => LoopAtV _ _ _ _ _ _ _ _ _ it s₂) _ _); refine mark_of ?_)) | (with_reducible (k_here; (with_reducible show wpAny _ _ (exec (Stmt.If (Expr.Compare (Expr.BinOp (Expr.BinOp _ Operator.FloorDiv _ _) Operator.Mod _ _) _ _ _) _ _ _) _) _ _ _); refine mark_of ?_)) | (with_reducible (k_here; (with_reducible show wpAny _ _ (subscriptTail _ _ (Value.ref _) (Value.int _ _)) _ _ _); (with_unfolding_all refine' strs_item_eq ?k1 ?k2 ?k3 ?k4 ?k5 ?kE ?_ ?k6; (case k1 => exact News.isList (by k_asm) (by k_mem)); (case k2 => assumption); (case k3 => omega); (case k4 => omega); (case k5 => omega); (case kE => exact rfl); (case k6 => with_unfolding_all rfl); k_whole); intro t9qi)) | (with_reducible (k_here; (with_reducible show wpAny _ _ (execs [Stmt.For _ _ _ _ _, Stmt.Return _ _] _) _ _ _); refine mark_of ?_)) | (with_reducible (k_here; with_reducible refine mod_int' (by assumption) ?_)) | (with_reducible (k_here; with_reducible refine floordiv_int (by assumption) ?_ (Or.inl (PyProof.noPylong_of_log2 (by assumption))))) | (with_reducible (k_here; with_reducible refine mul_int ?_ (mulOk_of_bits (by assumption) (by assumption) (by decide)))) | (with_reducible (k_here; (with_reducible show wpAny _ _ (call (Value.builtin _) [Value.ref _, _]) _ _ _); k_dflt (refine' append_K ?k1 ?k2 ?k3 ?_ ?z; (case k1 => k_asm); (case k2 => k_asm); (case k3 => k_upd); (case z => exact small_size3 (by assumption) (by assumption)); k_whole); intro hqi Fqi Nqi; (try k_sweep))) | (with_reducible (k_here; (with_reducible show wpAny _ _ (call (Value.ref 166) _) _ _ _); refine mark_of ?_)) | (with_reducible (k_here; (with_reducible show wpAny _ _ (call (Value.ref 72) _) _ _ _); refine mark_of ?_)) | (with_reducible (k_here; (with_reducible show wpAny _ _ (call (Value.ref 159) _) _ _ _); refine mark_of ?_)) | (with_reducible (k_here; (with_reducible show wpAny _ _ (storeName _ _ _) _ _ _); k_dflt ((first | refine' stI ?F ?N ?_ ?a ?b | refine' stS ?F ?N ?_ ?a ?b | refine' stA ?F ?N ?_ ?a ?b); (case F => k_asm); (case N => k_asm); (case a => exact Eq.refl ScopeKind.function); (case b => exact Eq.refl (some NameKind.local)); k_whole; intro hqi tqi uqi Fqi Nqi; (try k_sweep)))) | (with_reducible (k_here; (with_reducible show wpAny _ _ (eval (Expr.Name _ _) _) _ _ _); k_dflt (refine' nameX_L ?F ?v ?_ ?a ?b ?d; (case F => k_asm); (case a => exact Eq.refl ScopeKind.function); (case b => exact Eq.refl (some NameKind.local)); (case d => exact Eq.refl false); (case v => exact Eq.refl (some _)); k_whole)))); (all_goals (try dsimp only))) | (walk1; (all_goals (try dsimp only))) | (dsimp only; walk1)))
  (with_reducible rename News _ _ _ _ => kN; with_reducible rename Fr _ _ _ _ => kF)
  obtain ⟨sd, hsd⟩ : ∃ v : Int, v = 1 - 2 * tot.fmod 2 := ⟨_, rfl⟩
  obtain ⟨sz, hsz⟩ : ∃ v : Int, v = 20 + tot.fmod 40 := ⟨_, rfl⟩
  rw [← hsd, ← hsz] at kF
  have hSd : Sd sd tot := hsd
  obtain ⟨b1, b2⟩ := fmod_rng tot (c := 40) (by decide)
  have hz1 : 20 ≤ sz := by omega
  have hz2 : sz ≤ 59 := by omega
  clear b1 b2 hsz hsd
  refine mark_in ?_
  k_dflt (refine' cut_two (Str.ofString "size") (Str.ofString "hour") (HourOk ev) kF kN ?hA ?hB)
  case hA =>
    refine wpAny_If ?_
    (repeat' (first | (k_unfold; (try dsimp only)) | ((first | (with_reducible ((with_reducible show wpAny _ _ (pyIter (Value.ref _)) (fun it s₂ => LoopAtV _ _ _ _ _ _ _ _ _ it s₂) _ _); refine mark_of ?_)) | (with_reducible (k_here; (with_reducible show wpAny _ _ (exec (Stmt.If (Expr.Compare (Expr.BinOp (Expr.BinOp _ Operator.FloorDiv _ _) Operator.Mod _ _) _ _ _) _ _ _) _) _ _ _); refine mark_of ?_)) | (with_reducible (k_here; (with_reducible show wpAny _ _ (subscriptTail _ _ (Value.ref _) (Value.int _ _)) _ _ _); (with_unfolding_all refine' strs_item_eq ?k1 ?k2 ?k3 ?k4 ?k5 ?kE ?_ ?k6; (case k1 => exact News.isList (by k_asm) (by k_mem)); (case k2 => assumption); (case k3 => omega); (case k4 => omega); (case k5 => omega); (case kE => exact rfl); (case k6 => with_unfolding_all rfl); k_whole); intro t9qi)) | (with_reducible (k_here; (with_reducible show wpAny _ _ (execs [Stmt.For _ _ _ _ _, Stmt.Return _ _] _) _ _ _); refine mark_of ?_)) | (with_reducible (k_here; with_reducible refine mod_int' (by assumption) ?_)) | (with_reducible (k_here; with_reducible refine floordiv_int (by assumption) ?_ (Or.inl (PyProof.noPylong_of_log2 (by assumption))))) | (with_reducible (k_here; with_reducible refine mul_int ?_ (mulOk_of_bits (by assumption) (by assumption) (by decide)))) | (with_reducible (k_here; (with_reducible show wpAny _ _ (call (Value.builtin _) [Value.ref _, _]) _ _ _); k_dflt (refine' append_K ?k1 ?k2 ?k3 ?_ ?z; (case k1 => k_asm); (case k2 => k_asm); (case k3 => k_upd); (case z => exact small_size3 (by assumption) (by assumption)); k_whole); intro hqi Fqi Nqi; (try k_sweep))) | (with_reducible (k_here; (with_reducible show wpAny _ _ (call (Value.ref 166) _) _ _ _); refine mark_of ?_)) | (with_reducible (k_here; (with_reducible show wpAny _ _ (call (Value.ref 72) _) _ _ _); refine mark_of ?_)) | (with_reducible (k_here; (with_reducible show wpAny _ _ (call (Value.ref 159) _) _ _ _); refine mark_of ?_)) | (with_reducible (k_here; (with_reducible show wpAny _ _ (storeName _ _ _) _ _ _); k_dflt ((first | refine' stI ?F ?N ?_ ?a ?b | refine' stS ?F ?N ?_ ?a ?b | refine' stA ?F ?N ?_ ?a ?b); (case F => k_asm); (case N => k_asm); (case a => exact Eq.refl ScopeKind.function); (case b => exact Eq.refl (some NameKind.local)); k_whole; intro hqi tqi uqi Fqi Nqi; (try k_sweep)))) | (with_reducible (k_here; (with_reducible show wpAny _ _ (eval (Expr.Name _ _) _) _ _ _); k_dflt (refine' nameX_L ?F ?v ?_ ?a ?b ?d; (case F => k_asm); (case a => exact Eq.refl ScopeKind.function); (case b => exact Eq.refl (some NameKind.local)); (case d => exact Eq.refl false); (case v => exact Eq.refl (some _)); k_whole)))); (all_goals (try dsimp only))) | (walk1; (all_goals (try dsimp only))) | (dsimp only; walk1)))
    all_goals (
      (with_reducible rename News _ _ _ _ => kN9)
      (with_reducible rename Fr _ _ _ _ => kF9)
      (with_unfolding_all refine' Cut2.mk' kF9 kN9 ?wy ?wz ?wr ?wp)
      (case wy => with_unfolding_all rfl)
      (case wz => with_unfolding_all rfl)
      (case wr => intro x h1 h2; ((repeat (first | with_reducible exact rfl | refine upI_ne (by first | exact h1 | exact h2) ?_ | refine upS_ne (by first | exact h1 | exact h2) ?_ | refine upA_ne (by first | exact h1 | exact h2) ?_ | refine ite_ne (by first | exact h1 | exact h2) ?_ | refine ite_ctn (by assumption) ?_)); done))
      (case wp => first | exact HourOk.small (by omega) (by omega) (by omega) (by omega) | exact HourOk.big rfl (by omega) (by omega) (by omega) (by omega) (by omega) (by omega)))
  case hB =>
  clear kF kN
  intro sz2 hr2 t10 u10 h10 tk10 hHour F10 N10
  have hz3 : 20 ≤ sz2 := hHour.1
  have hz4 : sz2 ≤ 4159 := hHour.2.1
  (repeat' (first | (k_unfold; (try dsimp only)) | ((first | (with_reducible ((with_reducible show wpAny _ _ (pyIter (Value.ref _)) (fun it s₂ => LoopAtV _ _ _ _ _ _ _ _ _ it s₂) _ _); refine mark_of ?_)) | (with_reducible (k_here; (with_reducible show wpAny _ _ (exec (Stmt.If (Expr.Compare (Expr.BinOp (Expr.BinOp _ Operator.FloorDiv _ _) Operator.Mod _ _) _ _ _) _ _ _) _) _ _ _); refine mark_of ?_)) | (with_reducible (k_here; (with_reducible show wpAny _ _ (subscriptTail _ _ (Value.ref _) (Value.int _ _)) _ _ _); (with_unfolding_all refine' strs_item_eq ?k1 ?k2 ?k3 ?k4 ?k5 ?kE ?_ ?k6; (case k1 => exact News.isList (by k_asm) (by k_mem)); (case k2 => assumption); (case k3 => omega); (case k4 => omega); (case k5 => omega); (case kE => exact rfl); (case k6 => with_unfolding_all rfl); k_whole); intro t9qi)) | (with_reducible (k_here; (with_reducible show wpAny _ _ (execs [Stmt.For _ _ _ _ _, Stmt.Return _ _] _) _ _ _); refine mark_of ?_)) | (with_reducible (k_here; with_reducible refine mod_int' (by assumption) ?_)) | (with_reducible (k_here; with_reducible refine floordiv_int (by assumption) ?_ (Or.inl (PyProof.noPylong_of_log2 (by assumption))))) | (with_reducible (k_here; with_reducible refine mul_int ?_ (mulOk_of_bits (by assumption) (by assumption) (by decide)))) | (with_reducible (k_here; (with_reducible show wpAny _ _ (call (Value.builtin _) [Value.ref _, _]) _ _ _); k_dflt (refine' append_K ?k1 ?k2 ?k3 ?_ ?z; (case k1 => k_asm); (case k2 => k_asm); (case k3 => k_upd); (case z => exact small_size3 (by assumption) (by assumption)); k_whole); intro hqi Fqi Nqi; (try k_sweep))) | (with_reducible (k_here; (with_reducible show wpAny _ _ (call (Value.ref 166) _) _ _ _); refine mark_of ?_)) | (with_reducible (k_here; (with_reducible show wpAny _ _ (call (Value.ref 72) _) _ _ _); refine mark_of ?_)) | (with_reducible (k_here; (with_reducible show wpAny _ _ (call (Value.ref 159) _) _ _ _); refine mark_of ?_)) | (with_reducible (k_here; (with_reducible show wpAny _ _ (storeName _ _ _) _ _ _); k_dflt ((first | refine' stI ?F ?N ?_ ?a ?b | refine' stS ?F ?N ?_ ?a ?b | refine' stA ?F ?N ?_ ?a ?b); (case F => k_asm); (case N => k_asm); (case a => exact Eq.refl ScopeKind.function); (case b => exact Eq.refl (some NameKind.local)); k_whole; intro hqi tqi uqi Fqi Nqi; (try k_sweep)))) | (with_reducible (k_here; (with_reducible show wpAny _ _ (eval (Expr.Name _ _) _) _ _ _); k_dflt (refine' nameX_L ?F ?v ?_ ?a ?b ?d; (case F => k_asm); (case a => exact Eq.refl ScopeKind.function); (case b => exact Eq.refl (some NameKind.local)); (case d => exact Eq.refl false); (case v => exact Eq.refl (some _)); k_whole)))); (all_goals (try dsimp only))) | (walk1; (all_goals (try dsimp only))) | (dsimp only; walk1)))
  refine mark_in ?_
  (with_reducible rename News _ _ _ _ => kN; with_reducible rename Fr _ _ _ _ => kF)
  rename IsRange _ _ _ _ _ _ _ _ => kR
  obtain ⟨un, hun⟩ : ∃ v : Int, v = 2 ^ sz2.toNat - 1 := ⟨_, rfl⟩
  rw [← hun] at kF
  have hU : Unit1 sd ev un := ⟨hSd.two, ge1, ge2, (unit_bits hz3 hun).1⟩
  refine pull1 kN ?_
  intro ld eld
  subst eld
  have kN2 := News.l1perm kN
  k_dflt (refine' l1_loop (n := 4) (fun j => leadF 6 bl tb (plc sd ev (hr2 + (j : Int))) (Str.ofString "")) kF kN2 rfl kR (by decide) LOff.nil (.inl rfl) (.inl rfl) ?turn ?done)
  case done =>
    clear kN kN2 kF kR
    intro p1 p2 vs e R ui u h11 tk11 off T1 T2 hvs hne F11 N11
    obtain ⟨ne1, ne2⟩ := hne (by decide)
    rcases T1 with r | ⟨c1, k1, f1, u1, r1, y1, y2, y3⟩
    · exact absurd r ne1
    rcases T2 with r | ⟨c2, k2, f2, u2, r2, y4, y5, y6⟩
    · exact absurd r ne2
    subst r1 r2
    have N12 := News.sub N11 (List.forall_mem_cons.mpr ⟨(.head _), List.forall_mem_cons.mpr ⟨(.tail _ (.head _)), List.forall_mem_cons.mpr ⟨(.tail _ (.tail _ (.head _))), List.forall_mem_cons.mpr ⟨(.tail _ (.tail _ (.tail _ (.head _)))), List.forall_mem_cons.mpr ⟨(.tail _ (.tail _ (.tail _ (.tail _ (.head _))))), List.forall_mem_cons.mpr ⟨(.tail _ (.tail _ (.tail _ (.tail _ (.tail _ (.head _)))))), List.forall_mem_cons.mpr ⟨(.tail _ (.tail _ (.tail _ (.tail _ (.tail _ (.tail _ (y1))))))), List.forall_mem_cons.mpr ⟨(.tail _ (.tail _ (.tail _ (.tail _ (.tail _ (.tail _ (y4))))))), List.forall_mem_nil _⟩⟩⟩⟩⟩⟩⟩⟩)
    have o1 : @Ne Nat c1 ld := off1_ne off.l _ y1
    have o2 : @Ne Nat c2 ld := off1_ne off.l _ y4
    have o3 : @Ne Nat c1 53 := off1_ne off.a _ y1
    have o4 : @Ne Nat c2 53 := off1_ne off.a _ y4
    have o5 : @Ne Nat c1 46 := off1_ne off.b _ y1
    have o6 : @Ne Nat c2 46 := off1_ne off.b _ y4
    have o7 : @Ne Nat c1 _ := off1_ne off.y _ y1
    have o8 : @Ne Nat c2 _ := off1_ne off.y _ y4
    clear N11 off hne ne1 ne2 y1 y4
    obtain ⟨xs, hxsE⟩ : ∃ xs : List Str, xs = (List.range 4).map fun j : Nat => leadF 6 bl tb (plc sd ev (hr2 + (j : Int))) (Str.ofString "") := ⟨_, rfl⟩
    rw [← hxsE] at hvs
    have hxl : xs.length = 4 := by rw [hxsE]; rfl
    have hxl2 : xs.length ≤ 1000 := by omega
    obtain ⟨sp1, sp2⟩ := fmod_rng tot (c := 3) (by decide)
    obtain ⟨mo1, mo2⟩ := fmod_rng (tot.fdiv 3) (c := 3) (by decide)
    rename (@LT.lt Nat _ 53 _) ∧ (@LT.lt Nat _ 46 _) => hLs
    rcases hSd.two with e1 | e1
    · (repeat' (first | (k_unfold; (try dsimp only)) | ((first | (with_reducible ((with_reducible show wpAny _ _ (pyIter (Value.ref _)) (fun it s₂ => LoopAtV _ _ _ _ _ _ _ _ _ it s₂) _ _); refine mark_of ?_)) | (with_reducible (k_here; (with_reducible show wpAny _ _ (exec (Stmt.If (Expr.Compare (Expr.BinOp (Expr.BinOp _ Operator.FloorDiv _ _) Operator.Mod _ _) _ _ _) _ _ _) _) _ _ _); refine mark_of ?_)) | (with_reducible (k_here; (with_reducible show wpAny _ _ (subscriptTail _ _ (Value.ref _) (Value.int _ _)) _ _ _); (with_unfolding_all refine' strs_item_eq ?k1 ?k2 ?k3 ?k4 ?k5 ?kE ?_ ?k6; (case k1 => exact News.isList (by k_asm) (by k_mem)); (case k2 => assumption); (case k3 => omega); (case k4 => omega); (case k5 => omega); (case kE => exact rfl); (case k6 => with_unfolding_all rfl); k_whole); intro t9qi)) | (with_reducible (k_here; (with_reducible show wpAny _ _ (execs [Stmt.For _ _ _ _ _, Stmt.Return _ _] _) _ _ _); refine mark_of ?_)) | (with_reducible (k_here; with_reducible refine mod_int' (by assumption) ?_)) | (with_reducible (k_here; with_reducible refine floordiv_int (by assumption) ?_ (Or.inl (PyProof.noPylong_of_log2 (by assumption))))) | (with_reducible (k_here; with_reducible refine mul_int ?_ (mulOk_of_bits (by assumption) (by assumption) (by decide)))) | (with_reducible (k_here; (with_reducible show wpAny _ _ (call (Value.builtin _) [Value.ref _, _]) _ _ _); k_dflt (refine' append_K ?k1 ?k2 ?k3 ?_ ?z; (case k1 => k_asm); (case k2 => k_asm); (case k3 => k_upd); (case z => exact small_size3 (by assumption) (by assumption)); k_whole); intro hqi Fqi Nqi; (try k_sweep))) | (with_reducible (k_here; (with_reducible show wpAny _ _ (call (Value.ref 166) _) _ _ _); refine mark_of ?_)) | (with_reducible (k_here; (with_reducible show wpAny _ _ (call (Value.ref 72) _) _ _ _); refine mark_of ?_)) | (with_reducible (k_here; (with_reducible show wpAny _ _ (call (Value.ref 159) _) _ _ _); refine mark_of ?_)) | (with_reducible (k_here; (with_reducible show wpAny _ _ (storeName _ _ _) _ _ _); k_dflt ((first | refine' stI ?F ?N ?_ ?a ?b | refine' stS ?F ?N ?_ ?a ?b | refine' stA ?F ?N ?_ ?a ?b); (case F => k_asm); (case N => k_asm); (case a => exact Eq.refl ScopeKind.function); (case b => exact Eq.refl (some NameKind.local)); k_whole; intro hqi tqi uqi Fqi Nqi; (try k_sweep)))) | (with_reducible (k_here; (with_reducible show wpAny _ _ (eval (Expr.Name _ _) _) _ _ _); k_dflt (refine' nameX_L ?F ?v ?_ ?a ?b ?d; (case F => k_asm); (case a => exact Eq.refl ScopeKind.function); (case b => exact Eq.refl (some NameKind.local)); (case d => exact Eq.refl false); (case v => exact Eq.refl (some _)); k_whole)))); (all_goals (try dsimp only))) | (walk1; (all_goals (try dsimp only))) | (dsimp only; walk1)))
      refine mark_in ?_
      (with_reducible rename News _ _ _ _ => kN)
      (with_reducible rename Fr _ _ _ _ => kF)
      k_dflt (refine' law_rest (bl := bl) (tb := tb) (spare := tot.fmod 3) (more := (tot.fdiv 3).fmod 3) ⟨c1, c2, k1, k2, f1, f2, u1, u2, _, _⟩ (by assumption) (by assumption) (by assumption) (by assumption) (by assumption) hLs.1 hLs.2 (Fr.as4 kF rfl rfl rfl rfl) kN ⟨by assumption, y2, y3, y5, y6⟩ (by assumption) hvs hxl (by omega) (by omega) (by omega) (up_all ⟨hb1, hb2⟩ ⟨ht1, ht2⟩ hev (by omega) e1 hxsE) ⟨hb1, hb2⟩ ⟨ht1, ht2⟩ ⟨sp1, by omega⟩ ⟨mo1, by omega⟩ ?hPass ?hEnd)
      case hPass => passes_own
      case hEnd =>
        clear kN kF
        intro h' tk' m' c' F' N' H'
        (repeat' (first | (k_unfold; (try dsimp only)) | ((first | (with_reducible ((with_reducible show wpAny _ _ (pyIter (Value.ref _)) (fun it s₂ => LoopAtV _ _ _ _ _ _ _ _ _ it s₂) _ _); refine mark_of ?_)) | (with_reducible (k_here; (with_reducible show wpAny _ _ (exec (Stmt.If (Expr.Compare (Expr.BinOp (Expr.BinOp _ Operator.FloorDiv _ _) Operator.Mod _ _) _ _ _) _ _ _) _) _ _ _); refine mark_of ?_)) | (with_reducible (k_here; (with_reducible show wpAny _ _ (subscriptTail _ _ (Value.ref _) (Value.int _ _)) _ _ _); (with_unfolding_all refine' strs_item_eq ?k1 ?k2 ?k3 ?k4 ?k5 ?kE ?_ ?k6; (case k1 => exact News.isList (by k_asm) (by k_mem)); (case k2 => assumption); (case k3 => omega); (case k4 => omega); (case k5 => omega); (case kE => exact rfl); (case k6 => with_unfolding_all rfl); k_whole); intro t9qi)) | (with_reducible (k_here; (with_reducible show wpAny _ _ (execs [Stmt.For _ _ _ _ _, Stmt.Return _ _] _) _ _ _); refine mark_of ?_)) | (with_reducible (k_here; with_reducible refine mod_int' (by assumption) ?_)) | (with_reducible (k_here; with_reducible refine floordiv_int (by assumption) ?_ (Or.inl (PyProof.noPylong_of_log2 (by assumption))))) | (with_reducible (k_here; with_reducible refine mul_int ?_ (mulOk_of_bits (by assumption) (by assumption) (by decide)))) | (with_reducible (k_here; (with_reducible show wpAny _ _ (call (Value.builtin _) [Value.ref _, _]) _ _ _); k_dflt (refine' append_K ?k1 ?k2 ?k3 ?_ ?z; (case k1 => k_asm); (case k2 => k_asm); (case k3 => k_upd); (case z => exact small_size3 (by assumption) (by assumption)); k_whole); intro hqi Fqi Nqi; (try k_sweep))) | (with_reducible (k_here; (with_reducible show wpAny _ _ (call (Value.ref 166) _) _ _ _); refine mark_of ?_)) | (with_reducible (k_here; (with_reducible show wpAny _ _ (call (Value.ref 72) _) _ _ _); refine mark_of ?_)) | (with_reducible (k_here; (with_reducible show wpAny _ _ (call (Value.ref 159) _) _ _ _); refine mark_of ?_)) | (with_reducible (k_here; (with_reducible show wpAny _ _ (storeName _ _ _) _ _ _); k_dflt ((first | refine' stI ?F ?N ?_ ?a ?b | refine' stS ?F ?N ?_ ?a ?b | refine' stA ?F ?N ?_ ?a ?b); (case F => k_asm); (case N => k_asm); (case a => exact Eq.refl ScopeKind.function); (case b => exact Eq.refl (some NameKind.local)); k_whole; intro hqi tqi uqi Fqi Nqi; (try k_sweep)))) | (with_reducible (k_here; (with_reducible show wpAny _ _ (eval (Expr.Name _ _) _) _ _ _); k_dflt (refine' nameX_L ?F ?v ?_ ?a ?b ?d; (case F => k_asm); (case a => exact Eq.refl ScopeKind.function); (case b => exact Eq.refl (some NameKind.local)); (case d => exact Eq.refl false); (case v => exact Eq.refl (some _)); k_whole)))); (all_goals (try dsimp only))) | (walk1; (all_goals (try dsimp only))) | (dsimp only; walk1)))
        kc_close
    · (repeat' (first | (k_unfold; (try dsimp only)) | ((first | (with_reducible ((with_reducible show wpAny _ _ (pyIter (Value.ref _)) (fun it s₂ => LoopAtV _ _ _ _ _ _ _ _ _ it s₂) _ _); refine mark_of ?_)) | (with_reducible (k_here; (with_reducible show wpAny _ _ (exec (Stmt.If (Expr.Compare (Expr.BinOp (Expr.BinOp _ Operator.FloorDiv _ _) Operator.Mod _ _) _ _ _) _ _ _) _) _ _ _); refine mark_of ?_)) | (with_reducible (k_here; (with_reducible show wpAny _ _ (subscriptTail _ _ (Value.ref _) (Value.int _ _)) _ _ _); (with_unfolding_all refine' strs_item_eq ?k1 ?k2 ?k3 ?k4 ?k5 ?kE ?_ ?k6; (case k1 => exact News.isList (by k_asm) (by k_mem)); (case k2 => assumption); (case k3 => omega); (case k4 => omega); (case k5 => omega); (case kE => exact rfl); (case k6 => with_unfolding_all rfl); k_whole); intro t9qi)) | (with_reducible (k_here; (with_reducible show wpAny _ _ (execs [Stmt.For _ _ _ _ _, Stmt.Return _ _] _) _ _ _); refine mark_of ?_)) | (with_reducible (k_here; with_reducible refine mod_int' (by assumption) ?_)) | (with_reducible (k_here; with_reducible refine floordiv_int (by assumption) ?_ (Or.inl (PyProof.noPylong_of_log2 (by assumption))))) | (with_reducible (k_here; with_reducible refine mul_int ?_ (mulOk_of_bits (by assumption) (by assumption) (by decide)))) | (with_reducible (k_here; (with_reducible show wpAny _ _ (call (Value.builtin _) [Value.ref _, _]) _ _ _); k_dflt (refine' append_K ?k1 ?k2 ?k3 ?_ ?z; (case k1 => k_asm); (case k2 => k_asm); (case k3 => k_upd); (case z => exact small_size3 (by assumption) (by assumption)); k_whole); intro hqi Fqi Nqi; (try k_sweep))) | (with_reducible (k_here; (with_reducible show wpAny _ _ (call (Value.ref 166) _) _ _ _); refine mark_of ?_)) | (with_reducible (k_here; (with_reducible show wpAny _ _ (call (Value.ref 72) _) _ _ _); refine mark_of ?_)) | (with_reducible (k_here; (with_reducible show wpAny _ _ (call (Value.ref 159) _) _ _ _); refine mark_of ?_)) | (with_reducible (k_here; (with_reducible show wpAny _ _ (storeName _ _ _) _ _ _); k_dflt ((first | refine' stI ?F ?N ?_ ?a ?b | refine' stS ?F ?N ?_ ?a ?b | refine' stA ?F ?N ?_ ?a ?b); (case F => k_asm); (case N => k_asm); (case a => exact Eq.refl ScopeKind.function); (case b => exact Eq.refl (some NameKind.local)); k_whole; intro hqi tqi uqi Fqi Nqi; (try k_sweep)))) | (with_reducible (k_here; (with_reducible show wpAny _ _ (eval (Expr.Name _ _) _) _ _ _); k_dflt (refine' nameX_L ?F ?v ?_ ?a ?b ?d; (case F => k_asm); (case a => exact Eq.refl ScopeKind.function); (case b => exact Eq.refl (some NameKind.local)); (case d => exact Eq.refl false); (case v => exact Eq.refl (some _)); k_whole)))); (all_goals (try dsimp only))) | (walk1; (all_goals (try dsimp only))) | (dsimp only; walk1)))
      refine mark_in ?_
      (with_reducible rename News _ _ _ _ => kN; with_reducible rename Fr _ _ _ _ => kF)
      (with_reducible rename IsRange _ _ 0 4 _ _ _ _ => kR)
      k_dflt (refine' LCg.CompSrc.range (n := 4) rfl kF kN kR (by decide) (by decide) (by rw [sizeLine_eq]; omega) (fun g => kcs_any (fun k y => ∃ t, y = .str (revF xs k) t) ?turnR ?finR))
      case turnR =>
        clear kN kF kR
        rintro j v I9 oI9 C9 oC9 D9 m9 ys9 h9 tk9 E9 hj ⟨tj, rfl⟩ hNs hx9 F9 N9 off9 ne9
        rw [Int.zero_add] at hx9
        (repeat' (first | (k_unfold; (try dsimp only)) | ((first | (with_reducible ((with_reducible show wpAny _ _ (pyIter (Value.ref _)) (fun it s₂ => LoopAtV _ _ _ _ _ _ _ _ _ it s₂) _ _); refine mark_of ?_)) | (with_reducible (k_here; (with_reducible show wpAny _ _ (exec (Stmt.If (Expr.Compare (Expr.BinOp (Expr.BinOp _ Operator.FloorDiv _ _) Operator.Mod _ _) _ _ _) _ _ _) _) _ _ _); refine mark_of ?_)) | (with_reducible (k_here; (with_reducible show wpAny _ _ (subscriptTail _ _ (Value.ref _) (Value.int _ _)) _ _ _); (with_unfolding_all refine' strs_item_eq ?k1 ?k2 ?k3 ?k4 ?k5 ?kE ?_ ?k6; (case k1 => exact News.isList (by k_asm) (by k_mem)); (case k2 => assumption); (case k3 => omega); (case k4 => omega); (case k5 => omega); (case kE => exact rfl); (case k6 => with_unfolding_all rfl); k_whole); intro t9qi)) | (with_reducible (k_here; (with_reducible show wpAny _ _ (execs [Stmt.For _ _ _ _ _, Stmt.Return _ _] _) _ _ _); refine mark_of ?_)) | (with_reducible (k_here; with_reducible refine mod_int' (by assumption) ?_)) | (with_reducible (k_here; with_reducible refine floordiv_int (by assumption) ?_ (Or.inl (PyProof.noPylong_of_log2 (by assumption))))) | (with_reducible (k_here; with_reducible refine mul_int ?_ (mulOk_of_bits (by assumption) (by assumption) (by decide)))) | (with_reducible (k_here; (with_reducible show wpAny _ _ (call (Value.builtin _) [Value.ref _, _]) _ _ _); k_dflt (refine' append_K ?k1 ?k2 ?k3 ?_ ?z; (case k1 => k_asm); (case k2 => k_asm); (case k3 => k_upd); (case z => exact small_size3 (by assumption) (by assumption)); k_whole); intro hqi Fqi Nqi; (try k_sweep))) | (with_reducible (k_here; (with_reducible show wpAny _ _ (call (Value.ref 166) _) _ _ _); refine mark_of ?_)) | (with_reducible (k_here; (with_reducible show wpAny _ _ (call (Value.ref 72) _) _ _ _); refine mark_of ?_)) | (with_reducible (k_here; (with_reducible show wpAny _ _ (call (Value.ref 159) _) _ _ _); refine mark_of ?_)) | (with_reducible (k_here; (with_reducible show wpAny _ _ (storeName _ _ _) _ _ _); k_dflt ((first | refine' stI ?F ?N ?_ ?a ?b | refine' stS ?F ?N ?_ ?a ?b | refine' stA ?F ?N ?_ ?a ?b); (case F => k_asm); (case N => k_asm); (case a => exact Eq.refl ScopeKind.function); (case b => exact Eq.refl (some NameKind.local)); k_whole; intro hqi tqi uqi Fqi Nqi; (try k_sweep)))) | (with_reducible (k_here; (with_reducible show wpAny _ _ (eval (Expr.Name _ _) _) _ _ _); k_dflt (refine' nameX_L ?F ?v ?_ ?a ?b ?d; (case F => k_asm); (case a => exact Eq.refl ScopeKind.function); (case b => exact Eq.refl (some NameKind.local)); (case d => exact Eq.refl false); (case v => exact Eq.refl (some _)); k_whole)))); (all_goals (try dsimp only))) | (walk1; (all_goals (try dsimp only))) | (dsimp only; walk1)))
        exact LCg.CompEnd.intro (by k_asm) (by k_asm) _ (fun p hp => hp) off9 trivial ⟨rfl, _, rfl⟩
      case finR =>
        clear kN kF kR
        intro ys hys D h9 tk9 F9 N9 off9
        have hys2 : StrsAre ys ((List.range 4).map (revF xs)) := hys.strs (fun _ _ h => h)
        clear hys
        simp only [LCg.Off1] at off9
        dsimp only
        (repeat' (first | (k_unfold; (try dsimp only)) | ((first | (with_reducible ((with_reducible show wpAny _ _ (pyIter (Value.ref _)) (fun it s₂ => LoopAtV _ _ _ _ _ _ _ _ _ it s₂) _ _); refine mark_of ?_)) | (with_reducible (k_here; (with_reducible show wpAny _ _ (exec (Stmt.If (Expr.Compare (Expr.BinOp (Expr.BinOp _ Operator.FloorDiv _ _) Operator.Mod _ _) _ _ _) _ _ _) _) _ _ _); refine mark_of ?_)) | (with_reducible (k_here; (with_reducible show wpAny _ _ (subscriptTail _ _ (Value.ref _) (Value.int _ _)) _ _ _); (with_unfolding_all refine' strs_item_eq ?k1 ?k2 ?k3 ?k4 ?k5 ?kE ?_ ?k6; (case k1 => exact News.isList (by k_asm) (by k_mem)); (case k2 => assumption); (case k3 => omega); (case k4 => omega); (case k5 => omega); (case kE => exact rfl); (case k6 => with_unfolding_all rfl); k_whole); intro t9qi)) | (with_reducible (k_here; (with_reducible show wpAny _ _ (execs [Stmt.For _ _ _ _ _, Stmt.Return _ _] _) _ _ _); refine mark_of ?_)) | (with_reducible (k_here; with_reducible refine mod_int' (by assumption) ?_)) | (with_reducible (k_here; with_reducible refine floordiv_int (by assumption) ?_ (Or.inl (PyProof.noPylong_of_log2 (by assumption))))) | (with_reducible (k_here; with_reducible refine mul_int ?_ (mulOk_of_bits (by assumption) (by assumption) (by decide)))) | (with_reducible (k_here; (with_reducible show wpAny _ _ (call (Value.builtin _) [Value.ref _, _]) _ _ _); k_dflt (refine' append_K ?k1 ?k2 ?k3 ?_ ?z; (case k1 => k_asm); (case k2 => k_asm); (case k3 => k_upd); (case z => exact small_size3 (by assumption) (by assumption)); k_whole); intro hqi Fqi Nqi; (try k_sweep))) | (with_reducible (k_here; (with_reducible show wpAny _ _ (call (Value.ref 166) _) _ _ _); refine mark_of ?_)) | (with_reducible (k_here; (with_reducible show wpAny _ _ (call (Value.ref 72) _) _ _ _); refine mark_of ?_)) | (with_reducible (k_here; (with_reducible show wpAny _ _ (call (Value.ref 159) _) _ _ _); refine mark_of ?_)) | (with_reducible (k_here; (with_reducible show wpAny _ _ (storeName _ _ _) _ _ _); k_dflt ((first | refine' stI ?F ?N ?_ ?a ?b | refine' stS ?F ?N ?_ ?a ?b | refine' stA ?F ?N ?_ ?a ?b); (case F => k_asm); (case N => k_asm); (case a => exact Eq.refl ScopeKind.function); (case b => exact Eq.refl (some NameKind.local)); k_whole; intro hqi tqi uqi Fqi Nqi; (try k_sweep)))) | (with_reducible (k_here; (with_reducible show wpAny _ _ (eval (Expr.Name _ _) _) _ _ _); k_dflt (refine' nameX_L ?F ?v ?_ ?a ?b ?d; (case F => k_asm); (case a => exact Eq.refl ScopeKind.function); (case b => exact Eq.refl (some NameKind.local)); (case d => exact Eq.refl false); (case v => exact Eq.refl (some _)); k_whole)))); (all_goals (try dsimp only))) | (walk1; (all_goals (try dsimp only))) | (dsimp only; walk1)))
        refine mark_in ?_
        (with_reducible rename News _ _ _ _ => kN)
        (with_reducible rename Fr _ _ _ _ => kF)
        have kN2 := News.sub kN (List.forall_mem_cons.mpr ⟨(.head _), List.forall_mem_cons.mpr ⟨(.tail _ (.tail _ (.head _))), List.forall_mem_cons.mpr ⟨(.tail _ (.tail _ (.tail _ (.head _)))), List.forall_mem_cons.mpr ⟨(.tail _ (.tail _ (.tail _ (.tail _ (.head _))))), List.forall_mem_cons.mpr ⟨(.tail _ (.tail _ (.tail _ (.tail _ (.tail _ (.head _)))))), List.forall_mem_cons.mpr ⟨(.tail _ (.tail _ (.tail _ (.tail _ (.tail _ (.tail _ (.head _))))))), List.forall_mem_cons.mpr ⟨(.tail _ (.tail _ (.tail _ (.tail _ (.tail _ (.tail _ (.tail _ (.head _)))))))), List.forall_mem_cons.mpr ⟨(.tail _ (.tail _ (.tail _ (.tail _ (.tail _ (.tail _ (.tail _ (.tail _ (.head _))))))))), List.forall_mem_nil _⟩⟩⟩⟩⟩⟩⟩⟩)
        k_dflt (refine' law_rest (bl := bl) (tb := tb) (spare := tot.fmod 3) (more := (tot.fdiv 3).fmod 3) ⟨c1, c2, k1, k2, f1, f2, u1, u2, _, _⟩ (by assumption) (by assumption) (by assumption) (by assumption) (by assumption) hLs.1 hLs.2 (Fr.as4 kF rfl rfl rfl rfl) kN2 ⟨by assumption, y2, y3, y5, y6⟩ (by assumption) hys2 rfl (by omega) (by omega) (by omega) (dn_all ⟨hb1, hb2⟩ ⟨ht1, ht2⟩ hev (by omega) (by assumption) hxsE rfl) ⟨hb1, hb2⟩ ⟨ht1, ht2⟩ ⟨sp1, by omega⟩ ⟨mo1, by omega⟩ ?hPass ?hEnd)
        case hPass => passes_own
        case hEnd =>
          clear kN kF
          intro h' tk' m' c' F' N' H'
          (repeat' (first | (k_unfold; (try dsimp only)) | ((first | (with_reducible ((with_reducible show wpAny _ _ (pyIter (Value.ref _)) (fun it s₂ => LoopAtV _ _ _ _ _ _ _ _ _ it s₂) _ _); refine mark_of ?_)) | (with_reducible (k_here; (with_reducible show wpAny _ _ (exec (Stmt.If (Expr.Compare (Expr.BinOp (Expr.BinOp _ Operator.FloorDiv _ _) Operator.Mod _ _) _ _ _) _ _ _) _) _ _ _); refine mark_of ?_)) | (with_reducible (k_here; (with_reducible show wpAny _ _ (subscriptTail _ _ (Value.ref _) (Value.int _ _)) _ _ _); (with_unfolding_all refine' strs_item_eq ?k1 ?k2 ?k3 ?k4 ?k5 ?kE ?_ ?k6; (case k1 => exact News.isList (by k_asm) (by k_mem)); (case k2 => assumption); (case k3 => omega); (case k4 => omega); (case k5 => omega); (case kE => exact rfl); (case k6 => with_unfolding_all rfl); k_whole); intro t9qi)) | (with_reducible (k_here; (with_reducible show wpAny _ _ (execs [Stmt.For _ _ _ _ _, Stmt.Return _ _] _) _ _ _); refine mark_of ?_)) | (with_reducible (k_here; with_reducible refine mod_int' (by assumption) ?_)) | (with_reducible (k_here; with_reducible refine floordiv_int (by assumption) ?_ (Or.inl (PyProof.noPylong_of_log2 (by assumption))))) | (with_reducible (k_here; with_reducible refine mul_int ?_ (mulOk_of_bits (by assumption) (by assumption) (by decide)))) | (with_reducible (k_here; (with_reducible show wpAny _ _ (call (Value.builtin _) [Value.ref _, _]) _ _ _); k_dflt (refine' append_K ?k1 ?k2 ?k3 ?_ ?z; (case k1 => k_asm); (case k2 => k_asm); (case k3 => k_upd); (case z => exact small_size3 (by assumption) (by assumption)); k_whole); intro hqi Fqi Nqi; (try k_sweep))) | (with_reducible (k_here; (with_reducible show wpAny _ _ (call (Value.ref 166) _) _ _ _); refine mark_of ?_)) | (with_reducible (k_here; (with_reducible show wpAny _ _ (call (Value.ref 72) _) _ _ _); refine mark_of ?_)) | (with_reducible (k_here; (with_reducible show wpAny _ _ (call (Value.ref 159) _) _ _ _); refine mark_of ?_)) | (with_reducible (k_here; (with_reducible show wpAny _ _ (storeName _ _ _) _ _ _); k_dflt ((first | refine' stI ?F ?N ?_ ?a ?b | refine' stS ?F ?N ?_ ?a ?b | refine' stA ?F ?N ?_ ?a ?b); (case F => k_asm); (case N => k_asm); (case a => exact Eq.refl ScopeKind.function); (case b => exact Eq.refl (some NameKind.local)); k_whole; intro hqi tqi uqi Fqi Nqi; (try k_sweep)))) | (with_reducible (k_here; (with_reducible show wpAny _ _ (eval (Expr.Name _ _) _) _ _ _); k_dflt (refine' nameX_L ?F ?v ?_ ?a ?b ?d; (case F => k_asm); (case a => exact Eq.refl ScopeKind.function); (case b => exact Eq.refl (some NameKind.local)); (case d => exact Eq.refl false); (case v => exact Eq.refl (some _)); k_whole)))); (all_goals (try dsimp only))) | (walk1; (all_goals (try dsimp only))) | (dsimp only; walk1)))
          kc_close
  case turn =>
    clear kN kN2 kF kR
    intro p1 p2 vs e R i t u h11 tk11 I oI hi hPI off T1 T2 hvs i1 i2 i3 i4 i5 i6 i7 F11 N11
    have hbi := hHour.2.2 i (by omega) (by omega)
    have hidm := idm_law hU hz3 hz4 hun hbi
    obtain ⟨e1, e2, e3, e4, e5, e6, e7, e8, e9, e10⟩ := Bits1.of hU hz3 hz4 hun hbi
    (repeat' (first | (k_unfold; (try dsimp only)) | ((first | (with_reducible ((with_reducible show wpAny _ _ (pyIter (Value.ref _)) (fun it s₂ => LoopAtV _ _ _ _ _ _ _ _ _ it s₂) _ _); refine mark_of ?_)) | (with_reducible (k_here; (with_reducible show wpAny _ _ (exec (Stmt.If (Expr.Compare (Expr.BinOp (Expr.BinOp _ Operator.FloorDiv _ _) Operator.Mod _ _) _ _ _) _ _ _) _) _ _ _); refine mark_of ?_)) | (with_reducible (k_here; (with_reducible show wpAny _ _ (subscriptTail _ _ (Value.ref _) (Value.int _ _)) _ _ _); (with_unfolding_all refine' strs_item_eq ?k1 ?k2 ?k3 ?k4 ?k5 ?kE ?_ ?k6; (case k1 => exact News.isList (by k_asm) (by k_mem)); (case k2 => assumption); (case k3 => omega); (case k4 => omega); (case k5 => omega); (case kE => exact rfl); (case k6 => with_unfolding_all rfl); k_whole); intro t9qi)) | (with_reducible (k_here; (with_reducible show wpAny _ _ (execs [Stmt.For _ _ _ _ _, Stmt.Return _ _] _) _ _ _); refine mark_of ?_)) | (with_reducible (k_here; with_reducible refine mod_int' (by assumption) ?_)) | (with_reducible (k_here; with_reducible refine floordiv_int (by assumption) ?_ (Or.inl (PyProof.noPylong_of_log2 (by assumption))))) | (with_reducible (k_here; with_reducible refine mul_int ?_ (mulOk_of_bits (by assumption) (by assumption) (by decide)))) | (with_reducible (k_here; (with_reducible show wpAny _ _ (call (Value.builtin _) [Value.ref _, _]) _ _ _); k_dflt (refine' append_K ?k1 ?k2 ?k3 ?_ ?z; (case k1 => k_asm); (case k2 => k_asm); (case k3 => k_upd); (case z => exact small_size3 (by assumption) (by assumption)); k_whole); intro hqi Fqi Nqi; (try k_sweep))) | (with_reducible (k_here; (with_reducible show wpAny _ _ (call (Value.ref 166) _) _ _ _); refine mark_of ?_)) | (with_reducible (k_here; (with_reducible show wpAny _ _ (call (Value.ref 72) _) _ _ _); refine mark_of ?_)) | (with_reducible (k_here; (with_reducible show wpAny _ _ (call (Value.ref 159) _) _ _ _); refine mark_of ?_)) | (with_reducible (k_here; (with_reducible show wpAny _ _ (storeName _ _ _) _ _ _); k_dflt ((first | refine' stI ?F ?N ?_ ?a ?b | refine' stS ?F ?N ?_ ?a ?b | refine' stA ?F ?N ?_ ?a ?b); (case F => k_asm); (case N => k_asm); (case a => exact Eq.refl ScopeKind.function); (case b => exact Eq.refl (some NameKind.local)); k_whole; intro hqi tqi uqi Fqi Nqi; (try k_sweep)))) | (with_reducible (k_here; (with_reducible show wpAny _ _ (eval (Expr.Name _ _) _) _ _ _); k_dflt (refine' nameX_L ?F ?v ?_ ?a ?b ?d; (case F => k_asm); (case a => exact Eq.refl ScopeKind.function); (case b => exact Eq.refl (some NameKind.local)); (case d => exact Eq.refl false); (case v => exact Eq.refl (some _)); k_whole)))); (all_goals (try dsimp only))) | (walk1; (all_goals (try dsimp only))) | (dsimp only; walk1)))
    (with_reducible rename News _ _ _ _ => kN)
    refine mark_in ?_
    k_dflt (refine (id_con ((hr2 + (i : Int)) * un) (sd * ev * un) _ _ _ _ _).use (by k_asm) (by k_asm) (by k_asm) (News.l1call kN) (by k_asm) rfl ⟨⟨by assumption, by assumption, rfl, ⟨Ne.symm i2, by omega, by omega, by omega, by omega, off.a⟩, ⟨Ne.symm i3, by omega, by omega, by omega, by omega, off.b⟩, Tab.cons5 T1, Tab.cons5 T2⟩, hidm⟩ (Nat.le_of_ble_eq_true rfl) (Nat.le_of_ble_eq_true rfl) ?_)
    intro v12 h12 tk12 nw12 g12 F12 N12
    clear kN
    obtain ⟨x, o, c1, k1, f1, u1, c2, k2, f2, u2, y1, y2, ⟨z1, z2, y3⟩, y4, y5, y6, y7, y8, y9, y10⟩ := g12
    subst y1
    subst y2
    subst y3
    have hc1 : @Ne Nat c1 ld := ne_list N12 (.tail _ (.head _)) (.tail _ (.tail _ (.tail _ (.tail _ (.tail _ (.tail _ (.head _))))))) y4
    have hc2 : @Ne Nat c2 ld := ne_list N12 (.tail _ (.tail _ (.head _))) (.tail _ (.tail _ (.tail _ (.tail _ (.tail _ (.tail _ (.head _))))))) y6
    have off2 := off.two (k1 := k1) (k2 := k2) y8.2.1 y8.2.2.1 y9.2.1 y9.2.2.1 hc1 hc2 (ne_cell N12 (.tail _ (.head _)) (.tail _ (.tail _ (.tail _ (.tail _ (.tail _ (.tail _ (.tail _ (.tail _ (.tail _ (.head _)))))))))) y4 (by assumption)) (ne_cell N12 (.tail _ (.tail _ (.head _))) (.tail _ (.tail _ (.tail _ (.tail _ (.tail _ (.tail _ (.tail _ (.tail _ (.tail _ (.head _)))))))))) y6 (by assumption))
      (ne_cell N12 (.tail _ (.head _)) (.tail _ (.tail _ (.tail _ (.tail _ (.tail _ (.tail _ (.tail _ (.tail _ (.head _))))))))) y4 (by assumption)) (ne_cell N12 (.tail _ (.tail _ (.head _))) (.tail _ (.tail _ (.tail _ (.tail _ (.tail _ (.tail _ (.tail _ (.tail _ (.head _))))))))) y6 (by assumption))
      (ne_cell N12 (.tail _ (.head _)) (.tail _ (.tail _ (.tail _ (.tail _ (.tail _ (.tail _ (.tail _ (.head _)))))))) y4 (by assumption)) (ne_cell N12 (.tail _ (.tail _ (.head _))) (.tail _ (.tail _ (.tail _ (.tail _ (.tail _ (.tail _ (.tail _ (.head _)))))))) y6 (by assumption))
    have T1' : Tab 71 4 QD #[rawInt (71 : Nat), rawInt (4 : Nat), .ref c1] ((c1, k1) :: (c2, k2) :: R) := .of1 (.head _) y4 y5
    have T2' : Tab 56 4 QI #[rawInt (56 : Nat), rawInt (4 : Nat), .ref c2] ((c1, k1) :: (c2, k2) :: R) := .of1 (.tail _ (.head _)) y6 y7
    have hoR := off.l
    have hI1 := iter_ne N12 (.tail _ (.head _)) (.tail _ (.tail _ (.tail _ (.tail _ (.tail _ (.head _)))))) y4 y5 hPI
    have hI2 := iter_ne N12 (.tail _ (.tail _ (.head _))) (.tail _ (.tail _ (.tail _ (.tail _ (.tail _ (.head _)))))) y6 y7 hPI
    have hlen9 : ((List.range i).map (fun j : Nat => leadF 6 bl tb (plc sd ev (hr2 + (j : Int))) (Str.ofString ""))).length ≤ 1000 := by rw [List.length_map, List.length_range]; omega
    simp only [LCg.Off1] at y10
    have hEq : (((hr2 + (i : Int)) * un).fdiv (sd * ev * un) == (hr2 + (i : Int)).fdiv (sd * ev) && ((hr2 + (i : Int)) * un).fmod (sd * ev * un) == (hr2 + (i : Int)).fmod (sd * ev) * un) = true := by rw [hU.vals.1, hU.vals.2]; simp
    have hval : (((hr2 + (i : Int)) * un).fmod (sd * ev * un)).fdiv (sd * un) = plc sd ev (hr2 + (i : Int)) := by rw [hU.vals.2, hU.place]
    obtain ⟨pl1, pl2⟩ := hU.bnd (h := hr2 + (i : Int))
    (repeat' (first | (k_unfold; (try dsimp only)) | ((first | (with_reducible ((with_reducible show wpAny _ _ (pyIter (Value.ref _)) (fun it s₂ => LoopAtV _ _ _ _ _ _ _ _ _ it s₂) _ _); refine mark_of ?_)) | (with_reducible (k_here; (with_reducible show wpAny _ _ (exec (Stmt.If (Expr.Compare (Expr.BinOp (Expr.BinOp _ Operator.FloorDiv _ _) Operator.Mod _ _) _ _ _) _ _ _) _) _ _ _); refine mark_of ?_)) | (with_reducible (k_here; (with_reducible show wpAny _ _ (subscriptTail _ _ (Value.ref _) (Value.int _ _)) _ _ _); (with_unfolding_all refine' strs_item_eq ?k1 ?k2 ?k3 ?k4 ?k5 ?kE ?_ ?k6; (case k1 => exact News.isList (by k_asm) (by k_mem)); (case k2 => assumption); (case k3 => omega); (case k4 => omega); (case k5 => omega); (case kE => exact rfl); (case k6 => with_unfolding_all rfl); k_whole); intro t9qi)) | (with_reducible (k_here; (with_reducible show wpAny _ _ (execs [Stmt.For _ _ _ _ _, Stmt.Return _ _] _) _ _ _); refine mark_of ?_)) | (with_reducible (k_here; with_reducible refine mod_int' (by assumption) ?_)) | (with_reducible (k_here; with_reducible refine floordiv_int (by assumption) ?_ (Or.inl (PyProof.noPylong_of_log2 (by assumption))))) | (with_reducible (k_here; with_reducible refine mul_int ?_ (mulOk_of_bits (by assumption) (by assumption) (by decide)))) | (with_reducible (k_here; (with_reducible show wpAny _ _ (call (Value.builtin _) [Value.ref _, _]) _ _ _); k_dflt (refine' append_K ?k1 ?k2 ?k3 ?_ ?z; (case k1 => k_asm); (case k2 => k_asm); (case k3 => k_upd); (case z => exact small_size3 (by assumption) (by assumption)); k_whole); intro hqi Fqi Nqi; (try k_sweep))) | (with_reducible (k_here; (with_reducible show wpAny _ _ (call (Value.ref 166) _) _ _ _); refine mark_of ?_)) | (with_reducible (k_here; (with_reducible show wpAny _ _ (call (Value.ref 72) _) _ _ _); refine mark_of ?_)) | (with_reducible (k_here; (with_reducible show wpAny _ _ (call (Value.ref 159) _) _ _ _); refine mark_of ?_)) | (with_reducible (k_here; (with_reducible show wpAny _ _ (storeName _ _ _) _ _ _); k_dflt ((first | refine' stI ?F ?N ?_ ?a ?b | refine' stS ?F ?N ?_ ?a ?b | refine' stA ?F ?N ?_ ?a ?b); (case F => k_asm); (case N => k_asm); (case a => exact Eq.refl ScopeKind.function); (case b => exact Eq.refl (some NameKind.local)); k_whole; intro hqi tqi uqi Fqi Nqi; (try k_sweep)))) | (with_reducible (k_here; (with_reducible show wpAny _ _ (eval (Expr.Name _ _) _) _ _ _); k_dflt (refine' nameX_L ?F ?v ?_ ?a ?b ?d; (case F => k_asm); (case a => exact Eq.refl ScopeKind.function); (case b => exact Eq.refl (some NameKind.local)); (case d => exact Eq.refl false); (case v => exact Eq.refl (some _)); k_whole)))); (all_goals (try dsimp only))) | (walk1; (all_goals (try dsimp only))) | (dsimp only; walk1)))
    rw [hval]
    refine mark_in ?_
    k_dflt (refine' (lead_c bl tb (plc sd ev (hr2 + (i : Int))) _ _ _).use ?k1 ?k2 ?k3 ?k4 ?k5 ?kK ?kp ?kd ?ku ?_; (case k1 => k_asm); (case k2 => k_asm); (case k3 => k_asm); (case k4 => k_asm); (case k5 => k_asm); (case kK => first | exact rfl | assumption))
    case kp => exact ⟨hb1, hb2, ht1, ht2, pl1, by omega⟩
    case kd => exact Nat.le_of_ble_eq_true rfl
    case ku => exact Nat.le_of_ble_eq_true rfl
    intro t13 h13 tk13 _ F13 N13
    try dsimp only
    (repeat' (first | (k_unfold; (try dsimp only)) | ((first | (with_reducible ((with_reducible show wpAny _ _ (pyIter (Value.ref _)) (fun it s₂ => LoopAtV _ _ _ _ _ _ _ _ _ it s₂) _ _); refine mark_of ?_)) | (with_reducible (k_here; (with_reducible show wpAny _ _ (exec (Stmt.If (Expr.Compare (Expr.BinOp (Expr.BinOp _ Operator.FloorDiv _ _) Operator.Mod _ _) _ _ _) _ _ _) _) _ _ _); refine mark_of ?_)) | (with_reducible (k_here; (with_reducible show wpAny _ _ (subscriptTail _ _ (Value.ref _) (Value.int _ _)) _ _ _); (with_unfolding_all refine' strs_item_eq ?k1 ?k2 ?k3 ?k4 ?k5 ?kE ?_ ?k6; (case k1 => exact News.isList (by k_asm) (by k_mem)); (case k2 => assumption); (case k3 => omega); (case k4 => omega); (case k5 => omega); (case kE => exact rfl); (case k6 => with_unfolding_all rfl); k_whole); intro t9qi)) | (with_reducible (k_here; (with_reducible show wpAny _ _ (execs [Stmt.For _ _ _ _ _, Stmt.Return _ _] _) _ _ _); refine mark_of ?_)) | (with_reducible (k_here; with_reducible refine mod_int' (by assumption) ?_)) | (with_reducible (k_here; with_reducible refine floordiv_int (by assumption) ?_ (Or.inl (PyProof.noPylong_of_log2 (by assumption))))) | (with_reducible (k_here; with_reducible refine mul_int ?_ (mulOk_of_bits (by assumption) (by assumption) (by decide)))) | (with_reducible (k_here; (with_reducible show wpAny _ _ (call (Value.builtin _) [Value.ref _, _]) _ _ _); k_dflt (refine' append_K ?k1 ?k2 ?k3 ?_ ?z; (case k1 => k_asm); (case k2 => k_asm); (case k3 => k_upd); (case z => exact small_size3 (by assumption) (by assumption)); k_whole); intro hqi Fqi Nqi; (try k_sweep))) | (with_reducible (k_here; (with_reducible show wpAny _ _ (call (Value.ref 166) _) _ _ _); refine mark_of ?_)) | (with_reducible (k_here; (with_reducible show wpAny _ _ (call (Value.ref 72) _) _ _ _); refine mark_of ?_)) | (with_reducible (k_here; (with_reducible show wpAny _ _ (call (Value.ref 159) _) _ _ _); refine mark_of ?_)) | (with_reducible (k_here; (with_reducible show wpAny _ _ (storeName _ _ _) _ _ _); k_dflt ((first | refine' stI ?F ?N ?_ ?a ?b | refine' stS ?F ?N ?_ ?a ?b | refine' stA ?F ?N ?_ ?a ?b); (case F => k_asm); (case N => k_asm); (case a => exact Eq.refl ScopeKind.function); (case b => exact Eq.refl (some NameKind.local)); k_whole; intro hqi tqi uqi Fqi Nqi; (try k_sweep)))) | (with_reducible (k_here; (with_reducible show wpAny _ _ (eval (Expr.Name _ _) _) _ _ _); k_dflt (refine' nameX_L ?F ?v ?_ ?a ?b ?d; (case F => k_asm); (case a => exact Eq.refl ScopeKind.function); (case b => exact Eq.refl (some NameKind.local)); (case d => exact Eq.refl false); (case v => exact Eq.refl (some _)); k_whole)))); (all_goals (try dsimp only))) | (walk1; (all_goals (try dsimp only))) | (dsimp only; walk1)))
    dsimp only [L1Post, TxPost]
    (with_reducible rename News _ _ _ _ => kN9)
    (with_reducible rename Fr _ _ _ _ => kF9)
    (with_unfolding_all refine l1_end (R := (c1, k1) :: (c2, k2) :: R) kF9 kN9 (.tail _ (.tail _ (.tail _ (.tail _ (.tail _ (.tail _ (.tail _ (.head _)))))))) (.tail _ (.tail _ (.tail _ (.tail _ (.tail _ (.tail _ (.tail _ (.tail _ (.head _))))))))) (.tail _ (.tail _ (.tail _ (.tail _ (.tail _ (.head _)))))) (.tail _ (.tail _ (.tail _ (.tail _ (.tail _ (.tail _ (.head _))))))) ?mxL ?mxN ?mxR off2 T1' T2' hvs rfl ⟨by simp, by simp⟩)
    case mxL => exact List.forall_mem_cons.mpr ⟨(.tail _ (.tail _ (.tail _ (.tail _ (.tail _ (.tail _ (.tail _ (.tail _ (.tail _ (.head _)))))))))), List.forall_mem_cons.mpr ⟨(.tail _ (.tail _ (.tail _ (.tail _ (.tail _ (.tail _ (.tail _ (.tail _ (.tail _ (.tail _ (.head _))))))))))), List.forall_mem_cons.mpr ⟨(.tail _ (.tail _ (.tail _ (.tail _ (.tail _ (.tail _ (.tail _ (.tail _ (.tail _ (.tail _ (.tail _ (.head _)))))))))))), List.forall_mem_cons.mpr ⟨(.tail _ (.tail _ (.tail _ (.head _)))), List.forall_mem_cons.mpr ⟨(.tail _ (.tail _ (.tail _ (.tail _ (.head _))))), fun q hq => (.tail _ (.tail _ (.tail _ (.tail _ (.tail _ (.tail _ (.tail _ (.tail _ (.tail _ (.tail _ (.tail _ (.tail _ (hq)))))))))))))⟩⟩⟩⟩⟩
    case mxN => exact List.forall_mem_cons.mpr ⟨i1, List.forall_mem_cons.mpr ⟨i2, List.forall_mem_cons.mpr ⟨i3, List.forall_mem_cons.mpr ⟨i4, List.forall_mem_cons.mpr ⟨i5, List.forall_mem_cons.mpr ⟨i6, List.forall_mem_cons.mpr ⟨hI1, List.forall_mem_cons.mpr ⟨hI2, i7⟩⟩⟩⟩⟩⟩⟩⟩
    case mxR =>
      intro z hz1 hz2
      have e11 : z ≠ Str.ofString "rest" := fun h => by rw [h] at hz2; exact absurd hz2 (by decide +kernel)
      have e12 : z ≠ Str.ofString "lap" := fun h => by rw [h] at hz2; exact absurd hz2 (by decide +kernel)
      ((repeat (first | with_reducible exact rfl | refine upI_ne (by first | exact e11 | exact e12 | exact hz1) ?_ | refine upS_ne (by first | exact e11 | exact e12 | exact hz1) ?_ | refine upA_ne (by first | exact e11 | exact e12 | exact hz1) ?_ | refine ite_ne (by first | exact e11 | exact e12 | exact hz1) ?_ | refine ite_ctn (by assumption) ?_)); done)
end
end Mine
theorem PySem.Challenge.cw_tv0051_01_holds : PySem.Challenge.rw_tv0051_01.Holds :=
  Mine.probe
