import PyProof.Rows.All
import Wide.All
import OpenK.AllK
import Wide.FinOn
import PySem.Challenge.RW_bb0029_01

open PySem PySem.W PyProof.Rows
set_option Elab.async false

namespace Mine
set_option maxRecDepth 100000 in
set_option maxHeartbeats 8000000 in
open_top hd for PySem.Challenge.rw_bb0029_01
end Mine

open PySem.Calls Mine
set_option maxRecDepth 100000

namespace Mine
def CtI (w : World) (mean : ExcName → Option Value) (mg mb : Str → Option Value) (f : Addr) (room : Nat) (vs : List Value) (x : Int) : Prop :=
  ∀ (dp un : Nat) (gd : Option (List Code)) (cn : Str) (cs : Scope) (a : Addr) (ccd : Value) (cl : List (Str × Addr)) (outer : List Env) (A₀ : Around) (base h₀ : Heap) (L : Addr) (m : Str → Option Value) (s : Shared) (news : List (Addr × Obj)) (Q E : Value → Shared → Prop),
    Below A₀ base outer h₀ → Fr h₀ L s.heap m → (hd.heap_39 w.params).In h₀ → News h₀ L s.heap news → Top hd.view_39 (looseW hd.view_39
    [Str.ofString "legal_date_gregorian", Str.ofString "to_jd_gregorian", Str.ofString "from_jd_gregorian",
      Str.ofString "legal_date_julian", Str.ofString "from_jd_julian", Str.ofString "to_jd_julian",
      Str.ofString "easter", Str.ofString "_easter_julian"]) mean mg mb h₀ → cs.kind = .function → dp + room < recursionLimit → un + 8 * room < cLine →
    (∀ (t : Tok) (h' : Heap) (tk' : Nat), Fr h₀ L h' m → News h₀ L h' news → Q (.int x t) { s with heap := h', toks := tk' }) →
    wpAny (model PySem.Challenge.rw_bb0029_01.row.prog w) (ktrTop dp un gd cn cs L a ccd cl outer) (call (.ref f) vs) Q E s
def CtB (w : World) (mean : ExcName → Option Value) (mg mb : Str → Option Value) (f : Addr) (room : Nat) (vs : List Value) (x : Bool) : Prop :=
  ∀ (dp un : Nat) (gd : Option (List Code)) (cn : Str) (cs : Scope) (a : Addr) (ccd : Value) (cl : List (Str × Addr)) (outer : List Env) (A₀ : Around) (base h₀ : Heap) (L : Addr) (m : Str → Option Value) (s : Shared) (news : List (Addr × Obj)) (Q E : Value → Shared → Prop),
    Below A₀ base outer h₀ → Fr h₀ L s.heap m → (hd.heap_39 w.params).In h₀ → News h₀ L s.heap news → Top hd.view_39 (looseW hd.view_39
    [Str.ofString "legal_date_gregorian", Str.ofString "to_jd_gregorian", Str.ofString "from_jd_gregorian",
      Str.ofString "legal_date_julian", Str.ofString "from_jd_julian", Str.ofString "to_jd_julian",
      Str.ofString "easter", Str.ofString "_easter_julian"]) mean mg mb h₀ → cs.kind = .function → dp + room < recursionLimit → un + 8 * room < cLine →
    (∀ (h' : Heap) (tk' : Nat), Fr h₀ L h' m → News h₀ L h' news → Q (.bool x) { s with heap := h', toks := tk' }) →
    wpAny (model PySem.Challenge.rw_bb0029_01.row.prog w) (ktrTop dp un gd cn cs L a ccd cl outer) (call (.ref f) vs) Q E s
def CtT (w : World) (mean : ExcName → Option Value) (mg mb : Str → Option Value) (f : Addr) (room : Nat) (vs : List Value) (P : Int → Int → Int → Prop) : Prop :=
  ∀ (dp un : Nat) (gd : Option (List Code)) (cn : Str) (cs : Scope) (a : Addr) (ccd : Value) (cl : List (Str × Addr)) (outer : List Env) (A₀ : Around) (base h₀ : Heap) (L : Addr) (m : Str → Option Value) (s : Shared) (news : List (Addr × Obj)) (Q E : Value → Shared → Prop),
    Below A₀ base outer h₀ → Fr h₀ L s.heap m → (hd.heap_39 w.params).In h₀ → News h₀ L s.heap news → Top hd.view_39 (looseW hd.view_39
    [Str.ofString "legal_date_gregorian", Str.ofString "to_jd_gregorian", Str.ofString "from_jd_gregorian",
      Str.ofString "legal_date_julian", Str.ofString "from_jd_julian", Str.ofString "to_jd_julian",
      Str.ofString "easter", Str.ofString "_easter_julian"]) mean mg mb h₀ → cs.kind = .function → dp + room < recursionLimit → un + 8 * room < cLine →
    (∀ (x y z : Int), P x y z → ∀ (D : Addr) (t1 t2 t3 : Tok) (c : Nat) (h' : Heap) (tk' : Nat), Fr h₀ L h' m → News h₀ L h' ((D, ({ cls := .type "tuple", data := .seq #[.int x t1, .int y t2, .int z t3] c } : Obj)) :: news) → AllLt D news → Q (.ref D) { s with heap := h', toks := tk' }) →
    wpAny (model PySem.Challenge.rw_bb0029_01.row.prog w) (ktrTop dp un gd cn cs L a ccd cl outer) (call (.ref f) vs) Q E s
theorem e_trunc {x y : Int} (hy : 0 < y) (h : (decide (x < 0) == decide (y < 0)) = true) : (if x < 0 then -x else x).fdiv (if y < 0 then -y else y) = Int.tdiv x y := by
  have h1 : ¬ y < 0 := by omega
  have h2 : ¬ x < 0 := by
    intro hx
    simp [h1, hx] at h
  rw [if_neg h1, if_neg h2, Int.fdiv_eq_tdiv_of_nonneg (by omega) (by omega)]
theorem e_trunc' {x y : Int} (hy : 0 < y) (h : (decide (x < 0) == decide (y < 0)) = false) : -(if x < 0 then -x else x).fdiv (if y < 0 then -y else y) = Int.tdiv x y := by
  have h1 : ¬ y < 0 := by omega
  have h2 : x < 0 := by
    by_cases hx : x < 0
    · exact hx
    · simp [h1, hx] at h
  rw [if_neg h1, if_pos h2, Int.fdiv_eq_tdiv_of_nonneg (by omega) (by omega), Int.neg_tdiv, Int.neg_neg]
set_option rowWalk.seconds 0 in
set_option maxHeartbeats 8000000 in
theorem c_trunc (w : World) (mean : ExcName → Option Value) (mg mb : Str → Option Value) (x y : Int) (tx ty : Tok) (hy : 0 < y) (hy1 : y < 1073741824) : CtI w mean mg mb 28 1 [.int x tx, .int y ty] (Int.tdiv x y) := by
  unfold CtI
  k_fill
  intro dp un gd cn cs a ccd cl outer A₀ base h₀ L m s news Q E hB F X N T hk hd hu hret
  refine wpAny_call ?_
  k_dflt cell_enter
  k_steps
  all_goals (refine cb_retI hret ?_ (by k_asm) (by k_asm); first | exact e_trunc (by assumption) (by assumption) | exact e_trunc' (by assumption) (by assumption))
def leapB (y : Int) : Bool := decide (y % 4 = 0 ∧ (y % 100 ≠ 0 ∨ y % 400 = 0))
theorem fm {y k : Int} (hk : 0 ≤ k) : y.fmod k = y % k := Int.fmod_eq_emod_of_nonneg y hk
theorem e_leap1 {y : Int} (h4 : y.fmod 4 = 0) (h100 : y.fmod 100 ≠ 0) : (y.fmod 100 != 0) = leapB y := by
  rw [fm (by omega)] at *
  rw [leapB, decide_eq_true (by omega), bne_iff_ne.mpr h100]
theorem e_leap2 {y : Int} (h4 : y.fmod 4 = 0) (h100 : y.fmod 100 = 0) : (y.fmod 400 == 0) = leapB y := by
  rw [fm (by omega)] at *
  by_cases h : y % 400 = 0
  · rw [leapB, decide_eq_true (by omega), beq_iff_eq.mpr h]
  · rw [leapB, decide_eq_false (by omega), beq_eq_false_iff_ne.mpr h]
theorem e_leap3 {y : Int} (h4 : y.fmod 4 ≠ 0) : (y.fmod 4 == 0) = leapB y := by
  rw [fm (by omega)] at *
  rw [leapB, decide_eq_false (by omega), beq_eq_false_iff_ne.mpr h4]
set_option rowWalk.seconds 0 in
set_option maxHeartbeats 8000000 in
theorem c_isleap (w : World) (mean : ExcName → Option Value) (mg mb : Str → Option Value) (y : Int) (ty : Tok) : CtB w mean mg mb 21 1 [.int y ty] (leapB y) := by
  unfold CtB
  k_fill
  intro dp un gd cn cs a ccd cl outer A₀ base h₀ L m s news Q E hB F X N T hk hd hu hret
  refine wpAny_call ?_
  k_dflt cell_enter
  k_steps
  all_goals (refine cb_retB (fun _ => hret) ?_ (by k_asm) (by k_asm); first | exact e_leap1 (by assumption) (by assumption) | exact e_leap2 (by assumption) (by assumption) | exact e_leap3 (by assumption))
abbrev LeapP (y : Int) : Prop := y % 4 = 0 ∧ (y % 100 ≠ 0 ∨ y % 400 = 0)
def Legal (y m d : Int) : Prop := 1 ≤ m ∧ m ≤ 12 ∧ 1 ≤ d ∧ (m = 2 ∧ LeapP y ∧ d ≤ 29 ∨ m = 2 ∧ ¬ LeapP y ∧ d ≤ 28 ∨ (m = 4 ∨ m = 6 ∨ m = 9 ∨ m = 11) ∧ d ≤ 30 ∨ (m = 1 ∨ m = 3 ∨ m = 5 ∨ m = 7 ∨ m = 8 ∨ m = 10 ∨ m = 12) ∧ d ≤ 31)
def gjd (y m d : Int) : Int := 1721425 + 365 * (y - 1) + (y - 1) / 4 - (y - 1) / 100 + (y - 1) / 400 + (367 * m - 362) / 12 + (if m ≤ 2 then 0 else if LeapP y then -1 else -2) + d
section
variable {w : World} {mean : ExcName → Option Value} {mg mb : Str → Option Value} {f : Addr} {room : Nat} {vs : List Value} {dp un : Nat} {gd : Option (List Code)} {cn : Str} {cs : Scope} {a : Addr} {ccd : Value} {cl : List (Str × Addr)} {outer : List Env} {A₀ : Around} {base h₀ : Heap} {L : Addr} {m : Str → Option Value} {s : Shared} {news : List (Addr × Obj)} {Q E : Value → Shared → Prop}
theorem useI {x : Int} (C : CtI w mean mg mb f room vs x) (B : Below A₀ base outer h₀) (F : Fr h₀ L s.heap m) (X : (hd.heap_39 w.params).In h₀) (N : News h₀ L s.heap news) (T : Top hd.view_39 (looseW hd.view_39
    [Str.ofString "legal_date_gregorian", Str.ofString "to_jd_gregorian", Str.ofString "from_jd_gregorian",
      Str.ofString "legal_date_julian", Str.ofString "from_jd_julian", Str.ofString "to_jd_julian",
      Str.ofString "easter", Str.ofString "_easter_julian"]) mean mg mb h₀) (hk : cs.kind = .function) (hd : dp + room < recursionLimit) (hu : un + 8 * room < cLine)
    (ret : ∀ (t : Tok) (h' : Heap) (tk' : Nat), Fr h₀ L h' m → News h₀ L h' news → Q (.int x t) { s with heap := h', toks := tk' }) :
    wpAny (model PySem.Challenge.rw_bb0029_01.row.prog w) (ktrTop dp un gd cn cs L a ccd cl outer) (call (.ref f) vs) Q E s := C _ _ _ _ _ _ _ _ _ _ _ _ _ _ _ _ _ _ B F X N T hk hd hu ret
theorem useB {x : Bool} (C : CtB w mean mg mb f room vs x) (B : Below A₀ base outer h₀) (F : Fr h₀ L s.heap m) (X : (hd.heap_39 w.params).In h₀) (N : News h₀ L s.heap news) (T : Top hd.view_39 (looseW hd.view_39
    [Str.ofString "legal_date_gregorian", Str.ofString "to_jd_gregorian", Str.ofString "from_jd_gregorian",
      Str.ofString "legal_date_julian", Str.ofString "from_jd_julian", Str.ofString "to_jd_julian",
      Str.ofString "easter", Str.ofString "_easter_julian"]) mean mg mb h₀) (hk : cs.kind = .function) (hd : dp + room < recursionLimit) (hu : un + 8 * room < cLine)
    (ret : ∀ (h' : Heap) (tk' : Nat), Fr h₀ L h' m → News h₀ L h' news → Q (.bool x) { s with heap := h', toks := tk' }) :
    wpAny (model PySem.Challenge.rw_bb0029_01.row.prog w) (ktrTop dp un gd cn cs L a ccd cl outer) (call (.ref f) vs) Q E s := C _ _ _ _ _ _ _ _ _ _ _ _ _ _ _ _ _ _ B F X N T hk hd hu ret
theorem useL {y : Int} {ty : Tok} (C : CtB w mean mg mb 21 1 [.int y ty] (leapB y)) (B : Below A₀ base outer h₀) (F : Fr h₀ L s.heap m) (X : (hd.heap_39 w.params).In h₀) (N : News h₀ L s.heap news) (T : Top hd.view_39 (looseW hd.view_39
    [Str.ofString "legal_date_gregorian", Str.ofString "to_jd_gregorian", Str.ofString "from_jd_gregorian",
      Str.ofString "legal_date_julian", Str.ofString "from_jd_julian", Str.ofString "to_jd_julian",
      Str.ofString "easter", Str.ofString "_easter_julian"]) mean mg mb h₀) (hk : cs.kind = .function) (hd : dp + 1 < recursionLimit) (hu : un + 8 * 1 < cLine)
    (ret1 : LeapP y → ∀ (h' : Heap) (tk' : Nat), Fr h₀ L h' m → News h₀ L h' news → Q (.bool true) { s with heap := h', toks := tk' })
    (ret0 : ¬ LeapP y → ∀ (h' : Heap) (tk' : Nat), Fr h₀ L h' m → News h₀ L h' news → Q (.bool false) { s with heap := h', toks := tk' }) :
    wpAny (model PySem.Challenge.rw_bb0029_01.row.prog w) (ktrTop dp un gd cn cs L a ccd cl outer) (call (.ref 21) [.int y ty]) Q E s := by
  refine useB C B F X N T hk hd hu ?_
  by_cases h : LeapP y
  · rw [leapB, decide_eq_true h]; exact ret1 h
  · rw [leapB, decide_eq_false h]; exact ret0 h
theorem useT {P : Int → Int → Int → Prop} (C : CtT w mean mg mb f room vs P) (B : Below A₀ base outer h₀) (F : Fr h₀ L s.heap m) (X : (hd.heap_39 w.params).In h₀) (N : News h₀ L s.heap news) (T : Top hd.view_39 (looseW hd.view_39
    [Str.ofString "legal_date_gregorian", Str.ofString "to_jd_gregorian", Str.ofString "from_jd_gregorian",
      Str.ofString "legal_date_julian", Str.ofString "from_jd_julian", Str.ofString "to_jd_julian",
      Str.ofString "easter", Str.ofString "_easter_julian"]) mean mg mb h₀) (hk : cs.kind = .function) (hd : dp + room < recursionLimit) (hu : un + 8 * room < cLine)
    (ret : ∀ (x y z : Int), P x y z → ∀ (D : Addr) (t1 t2 t3 : Tok) (c : Nat) (h' : Heap) (tk' : Nat), Fr h₀ L h' m → News h₀ L h' ((D, ({ cls := .type "tuple", data := .seq #[.int x t1, .int y t2, .int z t3] c } : Obj)) :: news) → AllLt D news → Q (.ref D) { s with heap := h', toks := tk' }) :
    wpAny (model PySem.Challenge.rw_bb0029_01.row.prog w) (ktrTop dp un gd cn cs L a ccd cl outer) (call (.ref f) vs) Q E s := C _ _ _ _ _ _ _ _ _ _ _ _ _ _ _ _ _ _ B F X N T hk hd hu ret
end
def CtK (w : World) (mean : ExcName → Option Value) (mg mb : Str → Option Value) (f : Addr) (room : Nat) (vs : List Value) (kw : List (Str × Value)) (P : Int → Int → Int → Prop) : Prop :=
  ∀ (dp un : Nat) (gd : Option (List Code)) (cn : Str) (cs : Scope) (a : Addr) (ccd : Value) (cl : List (Str × Addr)) (outer : List Env) (A₀ : Around) (base h₀ : Heap) (L : Addr) (m : Str → Option Value) (s : Shared) (news : List (Addr × Obj)) (Q E : Value → Shared → Prop),
    Below A₀ base outer h₀ → Fr h₀ L s.heap m → (hd.heap_39 w.params).In h₀ → News h₀ L s.heap news → Top hd.view_39 (looseW hd.view_39
    [Str.ofString "legal_date_gregorian", Str.ofString "to_jd_gregorian", Str.ofString "from_jd_gregorian",
      Str.ofString "legal_date_julian", Str.ofString "from_jd_julian", Str.ofString "to_jd_julian",
      Str.ofString "easter", Str.ofString "_easter_julian"]) mean mg mb h₀ → cs.kind = .function → dp + room < recursionLimit → un + 8 * room < cLine →
    (∀ (x y z : Int), P x y z → ∀ (D : Addr) (t1 t2 t3 : Tok) (c : Nat) (h' : Heap) (tk' : Nat), Fr h₀ L h' m → News h₀ L h' ((D, ({ cls := .type "tuple", data := .seq #[.int x t1, .int y t2, .int z t3] c } : Obj)) :: news) → AllLt D news → Q (.ref D) { s with heap := h', toks := tk' }) →
    wpAny (model PySem.Challenge.rw_bb0029_01.row.prog w) (ktrTop dp un gd cn cs L a ccd cl outer) (call (.ref f) vs kw) Q E s
theorem useK {w : World} {mean : ExcName → Option Value} {mg mb : Str → Option Value} {f : Addr} {room : Nat} {vs : List Value} {kw : List (Str × Value)} {dp un : Nat} {gd : Option (List Code)} {cn : Str} {cs : Scope} {a : Addr} {ccd : Value} {cl : List (Str × Addr)} {outer : List Env} {A₀ : Around} {base h₀ : Heap} {L : Addr} {m : Str → Option Value} {s : Shared} {news : List (Addr × Obj)} {Q E : Value → Shared → Prop} {P : Int → Int → Int → Prop} (C : CtK w mean mg mb f room vs kw P) (B : Below A₀ base outer h₀) (F : Fr h₀ L s.heap m) (X : (hd.heap_39 w.params).In h₀) (N : News h₀ L s.heap news) (T : Top hd.view_39 (looseW hd.view_39
    [Str.ofString "legal_date_gregorian", Str.ofString "to_jd_gregorian", Str.ofString "from_jd_gregorian",
      Str.ofString "legal_date_julian", Str.ofString "from_jd_julian", Str.ofString "to_jd_julian",
      Str.ofString "easter", Str.ofString "_easter_julian"]) mean mg mb h₀) (hk : cs.kind = .function) (hd : dp + room < recursionLimit) (hu : un + 8 * room < cLine)
    (ret : ∀ (x y z : Int), P x y z → ∀ (D : Addr) (t1 t2 t3 : Tok) (c : Nat) (h' : Heap) (tk' : Nat), Fr h₀ L h' m → News h₀ L h' ((D, ({ cls := .type "tuple", data := .seq #[.int x t1, .int y t2, .int z t3] c } : Obj)) :: news) → AllLt D news → Q (.ref D) { s with heap := h', toks := tk' }) :
    wpAny (model PySem.Challenge.rw_bb0029_01.row.prog w) (ktrTop dp un gd cn cs L a ccd cl outer) (call (.ref f) vs kw) Q E s := C _ _ _ _ _ _ _ _ _ _ _ _ _ _ _ _ _ _ B F X N T hk hd hu ret
theorem in_tupK {prog : Program} {w : World} {A : Around} {s : Shared} {E : Value → Shared → Prop} {K : Frag} {h₀ : Heap} {L : Addr} {m : Str → Option Value} {o : Obj} {t : Addr} {items : Array Value} {n : Nat} {x : Int} {u : Tok} {Q : Value → Shared → Prop}
    (F : Fr h₀ L s.heap m) (X : K.In h₀) (hk : K.lookup t = some o) (hc : o.cls = .type "tuple") (hd : o.data = .seq items n) (hi : IntsAre items.toList [4, 6, 9, 11])
    (h1 : (x = 4 ∨ x = 6 ∨ x = 9 ∨ x = 11) → Q (.bool true) s) (h0 : ¬ (x = 4 ∨ x = 6 ∨ x = 9 ∨ x = 11) → Q (.bool false) s) : wpAny (model prog w) A (compareOp .In (.int x u) (.ref t)) Q E s := by
  refine in_tuple_ints ⟨o, (X.keeps F.keep) _ _ hk, hc, n, hd⟩ hi ?_
  by_cases h : x = 4 ∨ x = 6 ∨ x = 9 ∨ x = 11
  · have e : (([4, 6, 9, 11] : List Int).any (· == x)) = true := by
      rcases h with rfl | rfl | rfl | rfl <;> rfl
    rw [e]; exact h1 h
  · have e : (([4, 6, 9, 11] : List Int).any (· == x)) = false := by
      rw [List.any_eq_false]
      intro z hz hh
      rw [beq_iff_eq] at hh
      subst hh
      simp only [List.mem_cons, List.not_mem_nil, or_false] at hz
      exact h hz
    rw [e]; exact h0 h
theorem fd {y k : Int} (hk : 0 ≤ k) : y.fdiv k = y / k := Int.fdiv_eq_ediv_of_nonneg y hk
theorem e_gjd0 {y mo d : Int} (h : mo ≤ 2) : (1721426 - 1 + 365 * (y - 1) + (y - 1).fdiv 4 + -(y - 1).fdiv 100 + (y - 1).fdiv 400 + ((367 * mo - 362).fdiv 12 + 0 + d)) = gjd y mo d := by
  rw [fd (by omega), fd (by omega), fd (by omega), fd (by omega), gjd, if_pos h]; omega
theorem e_gjd1 {y mo d : Int} (h : ¬ mo ≤ 2) (hl : LeapP y) : (1721426 - 1 + 365 * (y - 1) + (y - 1).fdiv 4 + -(y - 1).fdiv 100 + (y - 1).fdiv 400 + ((367 * mo - 362).fdiv 12 + -1 + d)) = gjd y mo d := by
  rw [fd (by omega), fd (by omega), fd (by omega), fd (by omega), gjd, if_neg h, if_pos hl]; omega
theorem e_gjd2 {y mo d : Int} (h : ¬ mo ≤ 2) (hl : ¬ LeapP y) : (1721426 - 1 + 365 * (y - 1) + (y - 1).fdiv 4 + -(y - 1).fdiv 100 + (y - 1).fdiv 400 + ((367 * mo - 362).fdiv 12 + -2 + d)) = gjd y mo d := by
  rw [fd (by omega), fd (by omega), fd (by omega), fd (by omega), gjd, if_neg h, if_neg hl]; omega
end Mine
local macro_rules | `(tactic| walk_at "eval Call") => `(tactic| ((with_reducible show wpAny _ _ (eval (Expr.Call (Expr.Name _ _) _ [] _) _) _ _ _); k_dflt (refine Call_ ?_)))
local macro_rules | `(tactic| k_room) => `(tactic| ktr_room)
local macro_rules | `(tactic| walk_at "call ref") => `(tactic| (k_here; (with_reducible show wpAny _ _ (call (Value.ref 21) [Value.int _ _]) _ _ _); k_dflt (refine' useL (c_isleap _ _ _ _ _ _) ?k1 ?k2 ?k3 ?k4 ?k5 ?kK ?kd ?ku ?_ ?_; (case k1 => k_asm); (case k2 => k_asm); (case k3 => k_asm); (case k4 => k_asm); (case k5 => k_asm); (case kK => first | exact rfl | assumption); (case kd => ktr_room); (case ku => ktr_units)) <;> (intro hLeap h9 tk9 F9 N9; (try dsimp only); (try k_fold); (try (exfalso; omega))); walk_say "CUT isleap"))
local macro_rules | `(tactic| walk_at "compareOp In int ref") => `(tactic| (k_here; k_dflt (refine' in_tupK ?k1 ?k2 ?k3 ?k4 ?k5 ?k6 ?_ ?_; (case k1 => k_asm); (case k2 => k_asm); (case k3 => k_is); (case k4 => rfl); (case k5 => rfl); (case k6 => repeat constructor)) <;> (intro hIn; (try (exfalso; omega))); walk_say "IN TUPLE"))
namespace Mine
set_option rowWalk.seconds 0 in
set_option maxHeartbeats 8000000 in
theorem c_legal (w : World) (mean : ExcName → Option Value) (mg mb : Str → Option Value) (y mo d : Int) (ty tm td : Tok) (hl : Legal y mo d) : CtB w mean mg mb 43 2 [.int y ty, .int mo tm, .int d td] true := by
  unfold CtB
  k_fill
  intro dp un gd cn cs a ccd cl outer A₀ base h₀ L m s news Q E hB F X N T hk hd hu hret
  unfold Legal at hl
  obtain ⟨hl1, hl2, hl3, hl4⟩ := hl
  refine wpAny_call ?_
  k_dflt cell_enter
  k_steps
  all_goals (refine cb_retB (fun _ => hret) ?_ (by k_asm) (by k_asm); rfl)
end Mine
local macro_rules | `(tactic| walk_at "call ref") => `(tactic| (k_here; (with_reducible show wpAny _ _ (call (Value.ref 43) [Value.int _ _, Value.int _ _, Value.int _ _]) _ _ _); k_dflt (refine' useB (c_legal _ _ _ _ _ _ _ _ _ _ ?kp) ?k1 ?k2 ?k3 ?k4 ?k5 ?kK ?kd ?ku ?_; (case kp => assumption); (case k1 => k_asm); (case k2 => k_asm); (case k3 => k_asm); (case k4 => k_asm); (case k5 => k_asm); (case kK => first | exact rfl | assumption); (case kd => ktr_room); (case ku => ktr_units)); intro h9 tk9 F9 N9; (try dsimp only); (try k_fold); walk_say "CUT legal"))
namespace Mine
set_option rowWalk.seconds 0 in
set_option maxHeartbeats 8000000 in
theorem c_tojd (w : World) (mean : ExcName → Option Value) (mg mb : Str → Option Value) (y mo d : Int) (ty tm td : Tok) (hl : Legal y mo d) : CtI w mean mg mb 50 3 [.int y ty, .int mo tm, .int d td] (gjd y mo d) := by
  unfold CtI
  k_fill
  intro dp un gd cn cs a ccd cl outer A₀ base h₀ L m s news Q E hB F X N T hk hd hu hret
  refine wpAny_call ?_
  k_dflt cell_enter
  k_steps
  all_goals (refine cb_retI hret ?_ (by k_asm) (by k_asm); first | exact e_gjd0 (by assumption) | exact e_gjd1 (by assumption) (by assumption) | exact e_gjd2 (by assumption) (by assumption))
theorem legal11 (y : Int) : Legal y 1 1 := by unfold Legal; omega
theorem legalm1 {y m : Int} (h0 : 1 ≤ m) (h1 : m ≤ 12) : Legal y m 1 := by
  unfold Legal
  refine ⟨h0, h1, by omega, ?_⟩
  by_cases h : LeapP y
  · omega
  · have : ¬ LeapP y := h
    omega
def LP (y : Int) : Prop := LeapP y
theorem gjd11 (y : Int) : gjd y 1 1 = 1721426 + 365 * (y - 1) + (y - 1) / 4 - (y - 1) / 100 + (y - 1) / 400 := by
  unfold gjd
  rw [if_pos (by omega)]
  omega
/-- the parts of a day's number -/
theorem dparts (j : Int) : ∃ q c qd yi r : Int, (j - 1721426).fdiv 146097 = q ∧ ((j - 1721426).fmod 146097).fdiv 36524 = c ∧ (((j - 1721426).fmod 146097).fmod 36524).fdiv 1461 = qd ∧ ((((j - 1721426).fmod 146097).fmod 36524).fmod 1461).fdiv 365 = yi ∧
    j = 1721426 + 146097 * q + 36524 * c + 1461 * qd + 365 * yi + r ∧ 0 ≤ c ∧ 0 ≤ qd ∧ 0 ≤ yi ∧ 0 ≤ r ∧ r < 365 ∧ 365 * yi + r < 1461 ∧ 1461 * qd + 365 * yi + r < 36524 ∧ 36524 * c + 1461 * qd + 365 * yi + r < 146097 := by
  refine ⟨_, _, _, _, (((j - 1721426) % 146097) % 36524) % 1461 % 365, rfl, rfl, rfl, rfl, ?_⟩
  rw [fm (by omega), fm (by omega), fm (by omega), fd (by omega), fd (by omega), fd (by omega), fd (by omega)]
  omega
theorem g_A {j : Int} (h : ((j - 1721426).fmod 146097).fdiv 36524 = 4) :
    j - gjd ((j - 1721426).fdiv 146097 * 400 + ((j - 1721426).fmod 146097).fdiv 36524 * 100 +
              (((j - 1721426).fmod 146097).fmod 36524).fdiv 1461 * 4 +
            ((((j - 1721426).fmod 146097).fmod 36524).fmod 1461).fdiv 365) 1 1 = 365 ∧
    LP ((j - 1721426).fdiv 146097 * 400 + ((j - 1721426).fmod 146097).fdiv 36524 * 100 +
              (((j - 1721426).fmod 146097).fmod 36524).fdiv 1461 * 4 +
            ((((j - 1721426).fmod 146097).fmod 36524).fmod 1461).fdiv 365) := by
  obtain ⟨q, c, qd, yi, r, e1, e2, e3, e4, hj, h1, h2, h3, h4, h5, h6, h7, h8⟩ := dparts j
  rw [e2] at h
  rw [e1, e2, e3, e4, gjd11, LP]
  have hq : qd = 0 := by omega
  have hy : yi = 0 := by omega
  have hr : r = 0 := by omega
  subst h hq hy hr
  unfold LeapP
  omega
theorem g_B {j : Int} (h : ((j - 1721426).fmod 146097).fdiv 36524 ≠ 4) (hb : ((((j - 1721426).fmod 146097).fmod 36524).fmod 1461).fdiv 365 = 4) :
    j - gjd ((j - 1721426).fdiv 146097 * 400 + ((j - 1721426).fmod 146097).fdiv 36524 * 100 +
              (((j - 1721426).fmod 146097).fmod 36524).fdiv 1461 * 4 +
            ((((j - 1721426).fmod 146097).fmod 36524).fmod 1461).fdiv 365) 1 1 = 365 ∧
    LP ((j - 1721426).fdiv 146097 * 400 + ((j - 1721426).fmod 146097).fdiv 36524 * 100 +
              (((j - 1721426).fmod 146097).fmod 36524).fdiv 1461 * 4 +
            ((((j - 1721426).fmod 146097).fmod 36524).fmod 1461).fdiv 365) := by
  obtain ⟨q, c, qd, yi, r, e1, e2, e3, e4, hj, h1, h2, h3, h4, h5, h6, h7, h8⟩ := dparts j
  rw [e2] at h
  rw [e4] at hb
  rw [e1, e2, e3, e4, gjd11, LP]
  have hr : r = 0 := by omega
  subst hb hr
  have hc : c ≤ 3 := by omega
  have hq : qd ≤ 23 := by omega
  have d4 : (q * 400 + c * 100 + qd * 4 + 4 - 1) / 4 = 100 * q + 25 * c + qd := by omega
  have d100 : (q * 400 + c * 100 + qd * 4 + 4 - 1) / 100 = 4 * q + c := by omega
  have d400 : (q * 400 + c * 100 + qd * 4 + 4 - 1) / 400 = q := by omega
  rw [d4, d100, d400]
  unfold LeapP
  omega
theorem g_C {j : Int} (h : ((j - 1721426).fmod 146097).fdiv 36524 ≠ 4) (hb : ((((j - 1721426).fmod 146097).fmod 36524).fmod 1461).fdiv 365 ≠ 4) :
    0 ≤ j - gjd ((j - 1721426).fdiv 146097 * 400 + ((j - 1721426).fmod 146097).fdiv 36524 * 100 +
              (((j - 1721426).fmod 146097).fmod 36524).fdiv 1461 * 4 +
            ((((j - 1721426).fmod 146097).fmod 36524).fmod 1461).fdiv 365 + 1) 1 1 ∧
    j - gjd ((j - 1721426).fdiv 146097 * 400 + ((j - 1721426).fmod 146097).fdiv 36524 * 100 +
              (((j - 1721426).fmod 146097).fmod 36524).fdiv 1461 * 4 +
            ((((j - 1721426).fmod 146097).fmod 36524).fmod 1461).fdiv 365 + 1) 1 1 ≤ 364 := by
  obtain ⟨q, c, qd, yi, r, e1, e2, e3, e4, hj, h1, h2, h3, h4, h5, h6, h7, h8⟩ := dparts j
  rw [e2] at h
  rw [e4] at hb
  rw [e1, e2, e3, e4, gjd11]
  have hc : c ≤ 3 := by omega
  have hq : qd ≤ 24 := by omega
  have hy : yi ≤ 3 := by omega
  have d4 : (q * 400 + c * 100 + qd * 4 + yi + 1 - 1) / 4 = 100 * q + 25 * c + qd := by omega
  have d100 : (q * 400 + c * 100 + qd * 4 + yi + 1 - 1) / 100 = 4 * q + c := by omega
  have d400 : (q * 400 + c * 100 + qd * 4 + yi + 1 - 1) / 400 = q := by omega
  rw [d4, d100, d400]
  omega
/-- from the day of the year (from 0) to month and day -/
theorem g_end {j Y a : Int} (h0 : 0 ≤ j - gjd Y 1 1) (h1 : j - gjd Y 1 1 ≤ 365)
    (h : (LP Y ∧ j - gjd Y 1 1 < 59 ∧ a = 0) ∨ (LP Y ∧ ¬ j - gjd Y 1 1 < 59 ∧ a = 1) ∨ (¬ LP Y ∧ j - gjd Y 1 1 ≤ 364 ∧ j - gjd Y 1 1 < 58 ∧ a = 0) ∨ (¬ LP Y ∧ j - gjd Y 1 1 ≤ 364 ∧ ¬ j - gjd Y 1 1 < 58 ∧ a = 2)) :
    Legal Y (((j - gjd Y 1 1 + a) * 12 + 373).fdiv 367) (j - gjd Y (((j - gjd Y 1 1 + a) * 12 + 373).fdiv 367) 1 + 1) ∧
    gjd Y (((j - gjd Y 1 1 + a) * 12 + 373).fdiv 367) (j - gjd Y (((j - gjd Y 1 1 + a) * 12 + 373).fdiv 367) 1 + 1) = j := by
  rw [fd (by omega)]
  generalize hy : j - gjd Y 1 1 = yd at *
  generalize hm : ((yd + a) * 12 + 373) / 367 = m
  have hj : j = yd + gjd Y 1 1 := by omega
  have hm1 : 1 ≤ m := by omega
  have hm2 : m ≤ 12 := by omega
  have e1 : gjd Y m (j - gjd Y m 1 + 1) = j := by
    unfold gjd; omega
  refine ⟨?_, e1⟩
  have e2 : gjd Y m 1 - gjd Y 1 1 = (367 * m - 362) / 12 + (if m ≤ 2 then 0 else if LeapP Y then -1 else -2) := by
    unfold gjd; rw [if_pos (by omega : (1 : Int) ≤ 2)]; omega
  have e3 : j - gjd Y m 1 + 1 = yd + 1 - ((367 * m - 362) / 12 + (if m ≤ 2 then 0 else if LeapP Y then -1 else -2)) := by omega
  rw [e3]
  unfold Legal
  refine ⟨hm1, hm2, ?_⟩
  by_cases hl : LeapP Y
  · have hL : LP Y := hl
    simp only [hL, hl, not_true_eq_false, false_and, true_and, if_true, and_false, or_false, false_or] at h ⊢
    have hmm : m = 1 ∨ m = 2 ∨ m = 3 ∨ m = 4 ∨ m = 5 ∨ m = 6 ∨ m = 7 ∨ m = 8 ∨ m = 9 ∨ m = 10 ∨ m = 11 ∨ m = 12 := by omega
    clear e1 e2 e3 hj hy
    rcases hmm with rfl | rfl | rfl | rfl | rfl | rfl | rfl | rfl | rfl | rfl | rfl | rfl <;> simp <;> omega
  · have hL : ¬ LP Y := hl
    simp only [hL, hl, not_false_eq_true, false_and, true_and, if_false, and_false, or_false, false_or] at h ⊢
    have hmm : m = 1 ∨ m = 2 ∨ m = 3 ∨ m = 4 ∨ m = 5 ∨ m = 6 ∨ m = 7 ∨ m = 8 ∨ m = 9 ∨ m = 10 ∨ m = 11 ∨ m = 12 := by omega
    clear e1 e2 e3 hj hy
    rcases hmm with rfl | rfl | rfl | rfl | rfl | rfl | rfl | rfl | rfl | rfl | rfl | rfl <;> simp <;> omega
end Mine
local macro_rules | `(tactic| walk_at "call ref") => `(tactic| (k_here; (with_reducible show wpAny _ _ (call (Value.ref 21) [Value.int _ _]) _ _ _); k_dflt (refine' useL (c_isleap _ _ _ _ _ _) ?k1 ?k2 ?k3 ?k4 ?k5 ?kK ?kd ?ku ?_ ?_; (case k1 => k_asm); (case k2 => k_asm); (case k3 => k_asm); (case k4 => k_asm); (case k5 => k_asm); (case kK => first | exact rfl | assumption); (case kd => ktr_room); (case ku => ktr_units)) <;> (intro hLeap h9 tk9 F9 N9; (first | (have hLP : LP _ := hLeap) | (have hLP : ¬ LP _ := hLeap)); clear hLeap; (try dsimp only); (try k_fold); (try (exfalso; first | exact absurd hLP (by assumption) | exact absurd (by assumption) hLP))); walk_say "CUT isleap"))
local macro_rules | `(tactic| walk_at "call ref") => `(tactic| (k_here; (with_reducible show wpAny _ _ (call (Value.ref 50) [Value.int _ _, Value.int 1 _, Value.int 1 _]) _ _ _); k_dflt (refine' useI (c_tojd _ _ _ _ _ _ _ _ _ _ (legal11 _)) ?k1 ?k2 ?k3 ?k4 ?k5 ?kK ?kd ?ku ?_; (case k1 => k_asm); (case k2 => k_asm); (case k3 => k_asm); (case k4 => k_asm); (case k5 => k_asm); (case kK => first | exact rfl | assumption); (case kd => ktr_room); (case ku => ktr_units)); intro t9 h9 tk9 F9 N9; (try dsimp only); (try k_fold); (first | (have hY := g_A (by assumption); obtain ⟨hY1, hYL⟩ := hY) | (have hY := g_B (by assumption) (by assumption); obtain ⟨hY1, hYL⟩ := hY) | (have hY := g_C (by assumption) (by assumption); obtain ⟨hY1, hY2⟩ := hY)); walk_say "CUT tojd 1 1"))
local macro_rules | `(tactic| walk_at "call ref") => `(tactic| (k_here; (with_reducible show wpAny _ _ (call (Value.ref 50) [Value.int _ _, Value.int (Int.fdiv _ _) _, Value.int 1 _]) _ _ _); k_dflt (refine' useI (c_tojd _ _ _ _ _ _ _ _ _ _ ?kp) ?k1 ?k2 ?k3 ?k4 ?k5 ?kK ?kd ?ku ?_; (case kp => (refine legalm1 ?_ ?_ <;> (rw [fd (by omega)]; omega))); (case k1 => k_asm); (case k2 => k_asm); (case k3 => k_asm); (case k4 => k_asm); (case k5 => k_asm); (case kK => first | exact rfl | assumption); (case kd => ktr_room); (case ku => ktr_units)); intro t9 h9 tk9 F9 N9; (try dsimp only); (try k_fold); walk_say "CUT tojd m 1"))
namespace Mine
theorem lt_t {a : Int} (h : a < 58 + if true = true then 1 else 0) : a < 59 := by simpa using h
theorem nlt_t {a : Int} (h : ¬ a < 58 + if true = true then 1 else 0) : ¬ a < 59 := by simpa using h
theorem lt_f {a : Int} (h : a < 58 + if false = true then 1 else 0) : a < 58 := by simpa using h
theorem nlt_f {a : Int} (h : ¬ a < 58 + if false = true then 1 else 0) : ¬ a < 58 := by simpa using h
set_option rowWalk.seconds 0 in
set_option maxHeartbeats 8000000 in
theorem c_fromjd (w : World) (mean : ExcName → Option Value) (mg mb : Str → Option Value) (j : Int) (tj : Tok) : CtT w mean mg mb 57 5 [.int j tj] (fun x y z => Legal x y z ∧ gjd x y z = j) := by
  unfold CtT
  k_fill
  intro dp un gd cn cs a ccd cl outer A₀ base h₀ L m s news Q E hB F X N T hk hd hu hret
  refine wpAny_call ?_
  k_dflt cell_enter
  k_steps
  all_goals (refine hret _ _ _ ?_ _ _ _ _ _ _ _ (by k_asm) (by k_asm) (allLt_of (by assumption)))
  all_goals (refine g_end (by omega) (by omega) ?_; first | exact Or.inl ⟨by assumption, by first | omega | exact lt_t (by assumption), rfl⟩ | exact Or.inr (Or.inl ⟨by assumption, by first | omega | exact nlt_t (by assumption), rfl⟩) | exact Or.inr (Or.inr (Or.inl ⟨by assumption, by omega, by first | omega | exact lt_f (by assumption), rfl⟩)) | exact Or.inr (Or.inr (Or.inr ⟨by assumption, by omega, by first | omega | exact nlt_f (by assumption), rfl⟩)))
def jjd (y m d : Int) : Int := 1461 * (y + 4716) / 4 + 306001 * (m + 1) / 10000 + d - 1524
def LegalJ (m d : Int) : Prop := (m = 3 ∨ m = 4) ∧ 1 ≤ d ∧ d ≤ 31 ∧ (m = 4 → d ≤ 30)
theorem e_jjd {y m d : Int} : (1461 * (y + 4716)).fdiv 4 + (306001 * (m + 1)).fdiv 10000 + d - 1524 = jjd y m d := by
  rw [fd (by omega), fd (by omega), jjd]
theorem j_c {j y m d : Int} (h : LegalJ m d) (hj : j = jjd y m d) : (20 * (j + 1524) - 2442).fdiv 7305 = y + 4716 := by
  unfold LegalJ at h; unfold jjd at hj
  rw [fd (by omega)]
  rcases h.1 with rfl | rfl <;> omega
theorem j_e {j y m d : Int} (h : LegalJ m d) (hj : j = jjd y m d) : ((j + 1524 - (1461 * (20 * (j + 1524) - 2442).fdiv 7305).fdiv 4) * 10000).fdiv 306001 = m + 1 := by
  rw [j_c h hj]
  unfold LegalJ at h; unfold jjd at hj
  rw [fd (by omega), fd (by omega)]
  rcases h.1 with rfl | rfl <;> omega
theorem j_d {j y m d : Int} (h : LegalJ m d) (hj : j = jjd y m d) : j + 1524 - (1461 * (20 * (j + 1524) - 2442).fdiv 7305).fdiv 4 - (306001 * ((j + 1524 - (1461 * (20 * (j + 1524) - 2442).fdiv 7305).fdiv 4) * 10000).fdiv 306001).fdiv 10000 = d := by
  rw [j_e h hj, j_c h hj]
  unfold LegalJ at h; unfold jjd at hj
  rw [fd (by omega), fd (by omega)]
  rcases h.1 with rfl | rfl <;> omega
set_option rowWalk.seconds 0 in
set_option maxHeartbeats 8000000 in
theorem c_tojdj (w : World) (mean : ExcName → Option Value) (mg mb : Str → Option Value) (y mo d : Int) (ty tm td : Tok) (hl : LegalJ mo d) : CtI w mean mg mb 93 4 [.int y ty, .int mo tm, .int d td] (jjd y mo d) := by
  unfold CtI
  k_fill
  intro dp un gd cn cs a ccd cl outer A₀ base h₀ L m s news Q E hB F X N T hk hd hu hret
  have hl0 := hl
  unfold LegalJ at hl0
  obtain ⟨hl1, hl2, hl3, hl4⟩ := hl0
  refine wpAny_call ?_
  k_dflt cell_enter
  k_steps
  all_goals first | (exfalso; omega) | (refine cb_retI hret ?_ (by k_asm) (by k_asm); exact e_jjd)
set_option rowWalk.seconds 0 in
set_option maxHeartbeats 8000000 in
theorem c_fromjdj (w : World) (mean : ExcName → Option Value) (mg mb : Str → Option Value) (j y mo d : Int) (tj : Tok) (hl : LegalJ mo d) (hj : j = jjd y mo d) : CtT w mean mg mb 86 2 [.int j tj] (fun a b c => a = y ∧ b = mo ∧ c = d) := by
  unfold CtT
  k_fill
  intro dp un gd cn cs a ccd cl outer A₀ base h₀ L m s news Q E hB F X N T hk hd hu hret
  have hc := j_c hl hj
  have he := j_e hl hj
  have hm : mo = 3 ∨ mo = 4 := hl.1
  refine wpAny_call ?_
  k_dflt cell_enter
  k_steps
  all_goals (refine hret _ _ _ ?_ _ _ _ _ _ _ _ (by k_asm) (by k_asm) (allLt_of (by assumption)))
  all_goals (refine ⟨by omega, by omega, ?_⟩; exact j_d hl hj)
def dJ (ea : Bool) (y : Int) : Int := (19 * (y % 19) + 15) % 30 + (if ea = true ∧ y % 19 = 0 then 1 else 0)
def sJ (ea : Bool) (y : Int) : Int := 114 + dJ ea y + (2 * (y % 4) + 4 * (y % 7) - dJ ea y + 6) % 7
theorem s_nonneg (ea : Bool) (y : Int) : 0 ≤ sJ ea y ∧ 114 ≤ sJ ea y ∧ sJ ea y ≤ 150 := by
  unfold sJ dJ
  split <;> omega
theorem e_S {t S : Int} (h : t = S) (h0 : 0 ≤ S) : t.tdiv 31 = S / 31 ∧ t.fmod 31 + 1 = S % 31 + 1 := by
  subst h
  rw [Int.tdiv_eq_ediv_of_nonneg h0, fm (by omega)]
  exact ⟨rfl, rfl⟩
theorem e_Jn {y : Int} : 113 + (19 * y.fmod 19 + 15).fmod 30 + (2 * y.fmod 4 + 4 * y.fmod 7 - (19 * y.fmod 19 + 15).fmod 30 + 6).fmod 7 + 1 = sJ false y := by
  simp only [fm (show (0 : Int) ≤ 19 by decide), fm (show (0 : Int) ≤ 30 by decide), fm (show (0 : Int) ≤ 7 by decide), fm (show (0 : Int) ≤ 4 by decide)]
  unfold sJ dJ
  rw [if_neg (by simp)]
  omega
theorem e_Jf {y : Int} (h : y.fmod 19 ≠ 0) : 113 + (19 * y.fmod 19 + 15).fmod 30 + (2 * y.fmod 4 + 4 * y.fmod 7 - (19 * y.fmod 19 + 15).fmod 30 + 6).fmod 7 + 1 = sJ true y := by
  simp only [fm (show (0 : Int) ≤ 19 by decide), fm (show (0 : Int) ≤ 30 by decide), fm (show (0 : Int) ≤ 7 by decide), fm (show (0 : Int) ≤ 4 by decide)] at h ⊢
  unfold sJ dJ
  rw [if_neg (by simp [h])]
  omega
theorem e_Jt {y : Int} (h : y.fmod 19 = 0) : 113 + ((19 * y.fmod 19 + 15).fmod 30 + 1) + (2 * y.fmod 4 + 4 * y.fmod 7 - ((19 * y.fmod 19 + 15).fmod 30 + 1) + 6).fmod 7 + 1 = sJ true y := by
  simp only [fm (show (0 : Int) ≤ 19 by decide), fm (show (0 : Int) ≤ 30 by decide), fm (show (0 : Int) ≤ 7 by decide), fm (show (0 : Int) ≤ 4 by decide)] at h ⊢
  unfold sJ dJ
  rw [if_pos (by simp [h])]
  omega
end Mine
local macro_rules | `(tactic| walk_at "call ref") => `(tactic| (k_here; (with_reducible show wpAny _ _ (call (Value.ref 28) [Value.int _ _, Value.int _ _]) _ _ _); k_dflt (refine' useI (c_trunc _ _ _ _ _ _ _ _ ?kp ?kq) ?k1 ?k2 ?k3 ?k4 ?k5 ?kK ?kd ?ku ?_; (case kp => omega); (case kq => omega); (case k1 => k_asm); (case k2 => k_asm); (case k3 => k_asm); (case k4 => k_asm); (case k5 => k_asm); (case kK => first | exact rfl | assumption); (case kd => ktr_room); (case ku => ktr_units)); intro t9 h9 tk9 F9 N9; (try dsimp only); (try k_fold); walk_say "CUT trunc"))
namespace Mine
set_option rowWalk.seconds 0 in
set_option maxHeartbeats 8000000 in
theorem c_eastj (w : World) (mean : ExcName → Option Value) (mg mb : Str → Option Value) (y : Int) (ty : Tok) : CtK w mean mg mb 130 2 [.int y ty] [] (fun a b c => a = y ∧ b = sJ false y / 31 ∧ c = sJ false y % 31 + 1) := by
  unfold CtK
  k_fill
  intro dp un gd cn cs a ccd cl outer A₀ base h₀ L m s news Q E hB F X N T hk hd hu hret
  refine wpAny_call ?_
  k_dflt (refine' code_def ?k1 ?k2 ?k3 ?k4 ?k5 ?kA ?kF ?kK ?k6 ?k7 ?k8 ?k9 ?kB ?_ ?c2 ?c3 ?c4 ?c5; (case kA => exact rfl); (case kF => exact rfl); (case kK => assumption); (case k1 => k_asm); (case k2 => k_asm); (case k3 => k_asm); (case k4 => k_asm); (case k5 => k_asm); (case k6 => k_is); (case k7 => k_is); (case k8 => ktr_room); (case k9 => first | exact BindsTo.of_eq rfl | exact binds_K (by k_in) rfl (by k_is) rfl rfl rfl); (case c5 => decide); (case kB => exact locs rfl); (case c2 => exact rfl); (case c3 => exact rfl); (case c4 => exact rfl); k_whole; intro g' L' h' FG' F' N' B' X' T'; (try dsimp only); (try k_lift B'); (try k_fold))
  k_steps
  all_goals (refine hret _ _ _ ⟨rfl, ?_⟩ _ _ _ _ _ _ _ (by k_asm) (by k_asm) (allLt_of (by assumption)))
  all_goals (refine e_S ?_ (s_nonneg _ _).1; first | exact e_Jn | exact e_Jf (by assumption) | exact e_Jt (by assumption))
set_option rowWalk.seconds 0 in
set_option maxHeartbeats 8000000 in
theorem c_easte (w : World) (mean : ExcName → Option Value) (mg mb : Str → Option Value) (y : Int) (ty tt : Tok) : CtK w mean mg mb 130 2 [.int y ty] [(Str.ofString "mode", .str (Str.ofString "eastern") tt)] (fun a b c => a = y ∧ b = sJ true y / 31 ∧ c = sJ true y % 31 + 1) := by
  unfold CtK
  k_fill
  intro dp un gd cn cs a ccd cl outer A₀ base h₀ L m s news Q E hB F X N T hk hd hu hret
  refine wpAny_call ?_
  k_dflt (refine' code_def ?k1 ?k2 ?k3 ?k4 ?k5 ?kA ?kF ?kK ?k6 ?k7 ?k8 ?k9 ?kB ?_ ?c2 ?c3 ?c4 ?c5; (case kA => exact rfl); (case kF => exact rfl); (case kK => assumption); (case k1 => k_asm); (case k2 => k_asm); (case k3 => k_asm); (case k4 => k_asm); (case k5 => k_asm); (case k6 => k_is); (case k7 => k_is); (case k8 => ktr_room); (case k9 => first | exact BindsTo.of_eq rfl | exact binds_K (by k_in) rfl (by k_is) rfl rfl rfl); (case c5 => decide); (case kB => exact locs rfl); (case c2 => exact rfl); (case c3 => exact rfl); (case c4 => exact rfl); k_whole; intro g' L' h' FG' F' N' B' X' T'; (try dsimp only); (try k_lift B'); (try k_fold))
  k_steps
  all_goals (refine hret _ _ _ ⟨rfl, ?_⟩ _ _ _ _ _ _ _ (by k_asm) (by k_asm) (allLt_of (by assumption)))
  all_goals (refine e_S ?_ (s_nonneg _ _).1; first | exact e_Jn | exact e_Jf (by assumption) | exact e_Jt (by assumption))
theorem tq {x k q : Int} (h0 : 0 ≤ x) (hk : 0 < k) (hq : q = Int.tdiv x k) : 0 ≤ q ∧ q ≤ x ∧ k * q ≤ x ∧ x < k * q + k := by
  rw [Int.tdiv_eq_ediv_of_nonneg h0] at hq
  subst hq
  have h1 := Int.ediv_nonneg h0 (Int.le_of_lt hk)
  have h2 := Int.mul_ediv_self_le (x := x) (k := k) (by omega)
  have h3 := Int.lt_mul_ediv_self_add (x := x) hk
  refine ⟨h1, ?_, h2, h3⟩
  exact Int.ediv_le_self k h0
theorem tq17 {c q : Int} (h : q = Int.tdiv (c - 17) 25) (h0 : 15 ≤ c) (h1 : c ≤ 99) : 0 ≤ q ∧ q ≤ 3 ∧ (c < 17 → q = 0) ∧ (17 ≤ c → q = (c - 17) / 25) := by
  by_cases hc : c < 17
  · have e : c - 17 = -2 ∨ c - 17 = -1 := by omega
    have hq : q = 0 := by
      rcases e with e | e <;> (rw [e] at h; exact h)
    omega
  · rw [Int.tdiv_eq_ediv_of_nonneg (by omega)] at h
    omega
theorem tdiv28 {i : Int} (h0 : 0 ≤ i) (h1 : i ≤ 29) : Int.tdiv i 28 = if i < 28 then 0 else 1 := by
  rw [Int.tdiv_eq_ediv_of_nonneg h0]
  split <;> omega
theorem tq29 {i q : Int} (h0 : 0 ≤ i) (h1 : i ≤ 29) (h : q = Int.tdiv 29 (i + 1)) : 0 ≤ q ∧ q ≤ 29 ∧ 0 ≤ Int.tdiv i 28 ∧ Int.tdiv i 28 ≤ 1 := by
  rw [tdiv28 h0 h1]
  have h2 := tq (by omega) (by omega) h
  split <;> omega
theorem w_corr0 {i q q10 : Int} (h : q = Int.tdiv 29 (i + 1)) (h0 : 0 ≤ i) (h1 : i ≤ 29) :
    i - Int.tdiv i 28 * (1 - Int.tdiv i 28 * q * q10) = if i < 28 then i else if i = 28 then 27 + q10 else 28 := by
  rw [tdiv28 h0 h1]
  by_cases h4 : i < 28
  · rw [if_pos h4, if_pos h4]; omega
  · rw [if_neg h4, if_neg h4]
    have h5 : i = 28 ∨ i = 29 := by omega
    rcases h5 with rfl | rfl
    · have : q = 1 := by rw [h]; rfl
      subst this
      rw [if_pos rfl]; omega
    · have : q = 0 := by rw [h]; rfl
      subst this
      rw [if_neg (by decide)]; omega
theorem w_corr {i q q10 : Int} (h : q = Int.tdiv 29 (i + 1)) (h0 : 0 ≤ i) (h1 : i ≤ 29) (h2 : 0 ≤ q10) (h3 : q10 ≤ 1) :
    0 ≤ i - Int.tdiv i 28 * (1 - Int.tdiv i 28 * q * q10) ∧ i - Int.tdiv i 28 * (1 - Int.tdiv i 28 * q * q10) ≤ 28 := by
  rw [w_corr0 h h0 h1]
  split
  · omega
  · split <;> omega
/-- the western Easter, as plain integers: the moon's day wI, the Sunday's step wJ, the day wL counted from 28 March -/
def wK (y : Int) : Int := if y / 100 < 17 then 0 else (y / 100 - 17) / 25
def wI0 (y : Int) : Int := (y / 100 - y / 100 / 4 - (y / 100 - wK y) / 3 + 19 * (y % 19) + 15) % 30
def wI (y : Int) : Int := if wI0 y < 28 then wI0 y else if wI0 y = 28 then 27 + (21 - y % 19) / 11 else 28
def wJ (y : Int) : Int := (y + y / 4 + wI y + 2 - y / 100 + y / 100 / 4) % 7
def wL (y : Int) : Int := wI y - wJ y
def wM (y : Int) : Int := if wL y ≤ 3 then 3 else 4
def wD (y : Int) : Int := if wL y ≤ 3 then wL y + 28 else wL y - 3
theorem wI_bd (y : Int) : 0 ≤ wI y ∧ wI y ≤ 28 := by
  have h : 0 ≤ wI0 y ∧ wI0 y < 30 := by unfold wI0; omega
  unfold wI
  split
  · omega
  · split <;> omega
theorem wL_bd (y : Int) : -6 ≤ wL y ∧ wL y ≤ 28 := by
  have h := wI_bd y
  have h2 : 0 ≤ wJ y ∧ wJ y < 7 := by unfold wJ; omega
  unfold wL; omega
theorem w_end {y c a k e f g p r u v w m z : Int} (hy : 1583 ≤ y) (hy1 : y ≤ 9982) (h1 : c = Int.tdiv y 100) (h2 : a = Int.tdiv y 19) (h4 : e = Int.tdiv c 4) (h5 : f = Int.tdiv (c - k) 3) (h3 : k = Int.tdiv (c - 17) 25)
    (h6 : g = Int.tdiv (c - e - f + 19 * (y - 19 * a) + 15) 30) (h9 : p = Int.tdiv 29 (c - e - f + 19 * (y - 19 * a) + 15 - 30 * g + 1)) (h10 : r = Int.tdiv (21 - (y - 19 * a)) 11)
    (h11 : u = Int.tdiv y 4) (h12 : v = Int.tdiv c 4)
    (h13 : w = Int.tdiv (y + u + (c - e - f + 19 * (y - 19 * a) + 15 - 30 * g - Int.tdiv (c - e - f + 19 * (y - 19 * a) + 15 - 30 * g) 28 * (1 - Int.tdiv (c - e - f + 19 * (y - 19 * a) + 15 - 30 * g) 28 * p * r)) + 2 - c + v) 7)
    (h14 : m = Int.tdiv (c - e - f + 19 * (y - 19 * a) + 15 - 30 * g - Int.tdiv (c - e - f + 19 * (y - 19 * a) + 15 - 30 * g) 28 * (1 - Int.tdiv (c - e - f + 19 * (y - 19 * a) + 15 - 30 * g) 28 * p * r) - (y + u + (c - e - f + 19 * (y - 19 * a) + 15 - 30 * g - Int.tdiv (c - e - f + 19 * (y - 19 * a) + 15 - 30 * g) 28 * (1 - Int.tdiv (c - e - f + 19 * (y - 19 * a) + 15 - 30 * g) 28 * p * r)) + 2 - c + v - 7 * w) + 40) 44)
    (h15 : z = Int.tdiv (3 + m) 4) :
    3 + m = wM y ∧ c - e - f + 19 * (y - 19 * a) + 15 - 30 * g - Int.tdiv (c - e - f + 19 * (y - 19 * a) + 15 - 30 * g) 28 * (1 - Int.tdiv (c - e - f + 19 * (y - 19 * a) + 15 - 30 * g) 28 * p * r) - (y + u + (c - e - f + 19 * (y - 19 * a) + 15 - 30 * g - Int.tdiv (c - e - f + 19 * (y - 19 * a) + 15 - 30 * g) 28 * (1 - Int.tdiv (c - e - f + 19 * (y - 19 * a) + 15 - 30 * g) 28 * p * r)) + 2 - c + v - 7 * w) + 28 - 31 * z = wD y := by
  rw [Int.tdiv_eq_ediv_of_nonneg (by omega)] at h1 h2 h11
  have hc0 : 15 ≤ c := by omega
  have hc1 : c ≤ 99 := by omega
  have hn : y - 19 * a = y % 19 := by omega
  have hn0 : 0 ≤ y % 19 ∧ y % 19 ≤ 18 := by omega
  obtain ⟨hk0, hk1, hk2, hk3⟩ := tq17 h3 hc0 hc1
  have hk : k = wK y := by
    unfold wK; rw [← h1]
    split <;> omega
  rw [Int.tdiv_eq_ediv_of_nonneg (by omega)] at h4 h12
  rw [Int.tdiv_eq_ediv_of_nonneg (by omega)] at h5
  rw [hn] at h6 h9 h10 h13 h14 ⊢
  rw [Int.tdiv_eq_ediv_of_nonneg (by omega)] at h6 h10
  have hi : c - e - f + 19 * (y % 19) + 15 - 30 * g = wI0 y := by
    unfold wI0; rw [← h1, ← hk, ← h4, ← h5]; omega
  have hi0 : 0 ≤ wI0 y ∧ wI0 y ≤ 29 := by unfold wI0; omega
  rw [hi] at h9 h13 h14 ⊢
  have hI : wI0 y - Int.tdiv (wI0 y) 28 * (1 - Int.tdiv (wI0 y) 28 * p * r) = wI y := by
    rw [w_corr0 h9 hi0.1 hi0.2, wI, h10]
  rw [hI] at h13 h14 ⊢
  have hI0 := wI_bd y
  rw [Int.tdiv_eq_ediv_of_nonneg (by omega)] at h13
  have hJ : y + u + wI y + 2 - c + v - 7 * w = wJ y := by
    unfold wJ; rw [← h1, ← h12, ← h11]; omega
  rw [hJ] at h14 ⊢
  have hL : wI y - wJ y = wL y := rfl
  rw [hL] at h14 ⊢
  have hL0 := wL_bd y
  rw [Int.tdiv_eq_ediv_of_nonneg (by omega)] at h14
  rw [Int.tdiv_eq_ediv_of_nonneg (by omega)] at h15
  unfold wM wD
  split <;> omega
theorem useQ {w : World} {mean : ExcName → Option Value} {mg mb : Str → Option Value} {f : Addr} {room : Nat} {vs : List Value} {dp un : Nat} {gd : Option (List Code)} {cn : Str} {cs : Scope} {a : Addr} {ccd : Value} {cl : List (Str × Addr)} {outer : List Env} {A₀ : Around} {base h₀ : Heap} {L : Addr} {m : Str → Option Value} {s : Shared} {news : List (Addr × Obj)} {Q E : Value → Shared → Prop} {x : Int} (C : CtI w mean mg mb f room vs x) (B : Below A₀ base outer h₀) (F : Fr h₀ L s.heap m) (X : (hd.heap_39 w.params).In h₀) (N : News h₀ L s.heap news) (T : Top hd.view_39 (looseW hd.view_39
    [Str.ofString "legal_date_gregorian", Str.ofString "to_jd_gregorian", Str.ofString "from_jd_gregorian",
      Str.ofString "legal_date_julian", Str.ofString "from_jd_julian", Str.ofString "to_jd_julian",
      Str.ofString "easter", Str.ofString "_easter_julian"]) mean mg mb h₀) (hk : cs.kind = .function) (hd : dp + room < recursionLimit) (hu : un + 8 * room < cLine)
    (ret : ∀ q : Int, q = x → ∀ (t : Tok) (h' : Heap) (tk' : Nat), Fr h₀ L h' m → News h₀ L h' news → Q (.int q t) { s with heap := h', toks := tk' }) :
    wpAny (model PySem.Challenge.rw_bb0029_01.row.prog w) (ktrTop dp un gd cn cs L a ccd cl outer) (call (.ref f) vs) Q E s := useI C B F X N T hk hd hu (ret x rfl)
end Mine
local macro_rules | `(tactic| walk_at "call ref") => `(tactic| (k_here; (with_reducible show wpAny _ _ (call (Value.ref 28) [Value.int _ _, Value.int _ _]) _ _ _); k_dflt (refine' useQ (c_trunc _ _ _ _ _ _ _ _ ?kp ?kq) ?k1 ?k2 ?k3 ?k4 ?k5 ?kK ?kd ?ku ?_; (case kp => omega); (case kq => omega); (case k1 => k_asm); (case k2 => k_asm); (case k3 => k_asm); (case k4 => k_asm); (case k5 => k_asm); (case kK => first | exact rfl | assumption); (case kd => ktr_room); (case ku => ktr_units)); intro q9 hq9 t9 h9 tk9 F9 N9; (try dsimp only); (try k_fold); (first | (have hb9 := tq (by omega) (by omega) hq9; obtain ⟨hb91, hb92, hb93, hb94⟩ := hb9) | (have hb9 := tq17 hq9 (by omega) (by omega); obtain ⟨hb91, hb92, hb93⟩ := hb9)); walk_say "CUT trunc"))
local macro_rules | `(tactic| walk_at "call ref") => `(tactic| (k_here; (with_reducible show wpAny _ _ (call (Value.ref 28) [Value.int _ _, Value.int 28 _]) _ _ _); k_dflt (refine' useI (c_trunc _ _ _ _ _ _ _ _ ?kp ?kq) ?k1 ?k2 ?k3 ?k4 ?k5 ?kK ?kd ?ku ?_; (case kp => omega); (case kq => omega); (case k1 => k_asm); (case k2 => k_asm); (case k3 => k_asm); (case k4 => k_asm); (case k5 => k_asm); (case kK => first | exact rfl | assumption); (case kd => ktr_room); (case ku => ktr_units)); intro t9 h9 tk9 F9 N9; (try dsimp only); (try k_fold); walk_say "CUT trunc 28"))
local macro_rules | `(tactic| walk_at "call ref") => `(tactic| (k_here; (with_reducible show wpAny _ _ (call (Value.ref 28) [Value.int 29 _, Value.int _ _]) _ _ _); k_dflt (refine' useQ (c_trunc _ _ _ _ _ _ _ _ ?kp ?kq) ?k1 ?k2 ?k3 ?k4 ?k5 ?kK ?kd ?ku ?_; (case kp => omega); (case kq => omega); (case k1 => k_asm); (case k2 => k_asm); (case k3 => k_asm); (case k4 => k_asm); (case k5 => k_asm); (case kK => first | exact rfl | assumption); (case kd => ktr_room); (case ku => ktr_units)); intro q9 hq9 t9 h9 tk9 F9 N9; (try dsimp only); (try k_fold); (have hb9 := tq29 (by omega) (by omega) hq9; obtain ⟨hb91, hb92, hb93, hb94⟩ := hb9); walk_say "CUT trunc 29"))
local macro_rules | `(tactic| walk_at "call ref") => `(tactic| (k_here; (with_reducible show wpAny _ _ (call (Value.ref 28) [Value.int _ _, Value.int 11 _]) _ _ _); k_dflt (refine' useQ (c_trunc _ _ _ _ _ _ _ _ ?kp ?kq) ?k1 ?k2 ?k3 ?k4 ?k5 ?kK ?kd ?ku ?_; (case kp => omega); (case kq => omega); (case k1 => k_asm); (case k2 => k_asm); (case k3 => k_asm); (case k4 => k_asm); (case k5 => k_asm); (case kK => first | exact rfl | assumption); (case kd => ktr_room); (case ku => ktr_units)); intro q9 hq9 t9 h9 tk9 F9 N9; (try dsimp only); (try k_fold); (have hb9 := tq (by omega) (by omega) hq9; obtain ⟨hb91, hb92, hb93, hb94⟩ := hb9); (have hcor := w_corr (q10 := q9) (by assumption) (by omega) (by omega) (by omega) (by omega)); obtain ⟨hcor1, hcor2⟩ := hcor; walk_say "CUT trunc 11"))
namespace Mine
set_option rowWalk.seconds 0 in
set_option maxHeartbeats 8000000 in
theorem c_west (w : World) (mean : ExcName → Option Value) (mg mb : Str → Option Value) (y : Int) (ty : Tok) (hy : 1583 ≤ y) (hy1 : y ≤ 9982) : CtT w mean mg mb 122 2 [.int y ty] (fun a b c => a = y ∧ b = wM y ∧ c = wD y) := by
  unfold CtT
  k_fill
  intro dp un gd cn cs a ccd cl outer A₀ base h₀ L m s news Q E hB F X N T hk hd hu hret
  refine wpAny_call ?_
  k_dflt cell_enter
  k_steps
  all_goals (refine hret _ _ _ ⟨rfl, ?_⟩ _ _ _ _ _ _ _ (by k_asm) (by k_asm) (allLt_of (by assumption)))
  all_goals (exact w_end hy hy1 (by assumption) (by assumption) (by assumption) (by assumption) (by assumption) (by assumption) (by assumption) (by assumption) (by assumption) (by assumption) (by assumption) (by assumption) (by assumption))
theorem legalJ_s (ea : Bool) (y : Int) : LegalJ (sJ ea y / 31) (sJ ea y % 31 + 1) := by
  have h := s_nonneg ea y
  unfold LegalJ
  omega
def jE (ea : Bool) (y : Int) : Int := jjd y (sJ ea y / 31) (sJ ea y % 31 + 1)
end Mine
local macro_rules | `(tactic| walk_at "call ref") => `(tactic| (k_here; (with_reducible show wpAny _ _ (call (Value.ref 122) [Value.int _ _]) _ _ _); k_dflt (refine' useT (c_west _ _ _ _ _ _ ?kp ?kq) ?k1 ?k2 ?k3 ?k4 ?k5 ?kK ?kd ?ku ?_; (case kp => omega); (case kq => omega); (case k1 => k_asm); (case k2 => k_asm); (case k3 => k_asm); (case k4 => k_asm); (case k5 => k_asm); (case kK => first | exact rfl | assumption); (case kd => ktr_room); (case ku => ktr_units)); intro x9 y9 z9 hP9; obtain ⟨e9, e9', e9''⟩ := hP9; subst z9; subst y9; subst x9; intro D9 ta9 tb9 tc9 cc9 h9 tk9 F9 N9 l9; (try simp only [AllLt, and_true] at l9); (try dsimp only); (try k_fold); walk_say "CUT west"))
local macro_rules | `(tactic| walk_at "call ref") => `(tactic| (k_here; (with_reducible show wpAny _ _ (call (Value.ref 130) [Value.int _ _] []) _ _ _); k_dflt (refine' useK (c_eastj _ _ _ _ _ _) ?k1 ?k2 ?k3 ?k4 ?k5 ?kK ?kd ?ku ?_; (case k1 => k_asm); (case k2 => k_asm); (case k3 => k_asm); (case k4 => k_asm); (case k5 => k_asm); (case kK => first | exact rfl | assumption); (case kd => ktr_room); (case ku => ktr_units)); intro x9 y9 z9 hP9; obtain ⟨e9, e9', e9''⟩ := hP9; subst z9; subst y9; subst x9; intro D9 ta9 tb9 tc9 cc9 h9 tk9 F9 N9 l9; (try simp only [AllLt, and_true] at l9); (try dsimp only); (try k_fold); walk_say "CUT eastj"))
local macro_rules | `(tactic| walk_at "call ref") => `(tactic| (k_here; (with_reducible show wpAny _ _ (call (Value.ref 130) [Value.int _ _] _) _ _ _); k_dflt (refine' useK (c_easte _ _ _ _ _ _ _) ?k1 ?k2 ?k3 ?k4 ?k5 ?kK ?kd ?ku ?_; (case k1 => k_asm); (case k2 => k_asm); (case k3 => k_asm); (case k4 => k_asm); (case k5 => k_asm); (case kK => first | exact rfl | assumption); (case kd => ktr_room); (case ku => ktr_units)); intro x9 y9 z9 hP9; obtain ⟨e9, e9', e9''⟩ := hP9; subst z9; subst y9; subst x9; intro D9 ta9 tb9 tc9 cc9 h9 tk9 F9 N9 l9; (try simp only [AllLt, and_true] at l9); (try dsimp only); (try k_fold); walk_say "CUT easte"))
local macro_rules | `(tactic| walk_at "call ref") => `(tactic| (k_here; (with_reducible show wpAny _ _ (call (Value.ref 93) [Value.int _ _, Value.int _ _, Value.int _ _]) _ _ _); k_dflt (refine' useI (c_tojdj _ _ _ _ _ _ _ _ _ _ (legalJ_s _ _)) ?k1 ?k2 ?k3 ?k4 ?k5 ?kK ?kd ?ku ?_; (case k1 => k_asm); (case k2 => k_asm); (case k3 => k_asm); (case k4 => k_asm); (case k5 => k_asm); (case kK => first | exact rfl | assumption); (case kd => ktr_room); (case ku => ktr_units)); intro t9 h9 tk9 F9 N9; (try dsimp only); (try k_fold); walk_say "CUT tojdj"))
local macro_rules | `(tactic| walk_at "call ref") => `(tactic| (k_here; (with_reducible show wpAny _ _ (call (Value.ref 57) [Value.int _ _]) _ _ _); k_dflt (refine' useT (c_fromjd _ _ _ _ _ _) ?k1 ?k2 ?k3 ?k4 ?k5 ?kK ?kd ?ku ?_; (case k1 => k_asm); (case k2 => k_asm); (case k3 => k_asm); (case k4 => k_asm); (case k5 => k_asm); (case kK => first | exact rfl | assumption); (case kd => ktr_room); (case ku => ktr_units)); intro x9 y9 z9 hP9; intro D9 ta9 tb9 tc9 cc9 h9 tk9 F9 N9 l9; (try simp only [AllLt, and_true] at l9); (try dsimp only); (try k_fold); walk_say "CUT fromjd"))
namespace Mine
set_option rowWalk.seconds 0 in
set_option maxHeartbeats 8000000 in
theorem c_eastW (w : World) (mean : ExcName → Option Value) (mg mb : Str → Option Value) (y : Int) (ty tt : Tok) (hy : 1583 ≤ y) (hy1 : y ≤ 9982) : CtK w mean mg mb 115 8 [.int y ty, .str (Str.ofString "western") tt] [] (fun a b c => a = y ∧ b = wM y ∧ c = wD y) := by
  unfold CtK
  k_fill
  intro dp un gd cn cs a ccd cl outer A₀ base h₀ L m s news Q E hB F X N T hk hd hu hret
  refine wpAny_call ?_
  k_dflt (refine' code_def ?k1 ?k2 ?k3 ?k4 ?k5 ?kA ?kF ?kK ?k6 ?k7 ?k8 ?k9 ?kB ?_ ?c2 ?c3 ?c4 ?c5; (case kA => exact rfl); (case kF => exact rfl); (case kK => assumption); (case k1 => k_asm); (case k2 => k_asm); (case k3 => k_asm); (case k4 => k_asm); (case k5 => k_asm); (case k6 => k_is); (case k7 => k_is); (case k8 => ktr_room); (case k9 => first | exact BindsTo.of_eq rfl | exact binds_K (by k_in) rfl (by k_is) rfl rfl rfl); (case c5 => decide); (case kB => exact locs rfl); (case c2 => exact rfl); (case c3 => exact rfl); (case c4 => exact rfl); k_whole; intro g' L' h' FG' F' N' B' X' T'; (try dsimp only); (try k_lift B'); (try k_fold))
  k_steps
  all_goals exact hret _ _ _ ⟨rfl, rfl, rfl⟩ _ _ _ _ _ _ _ (by k_asm) (by k_asm) (by assumption)
set_option rowWalk.seconds 0 in
set_option maxHeartbeats 8000000 in
theorem c_eastO (w : World) (mean : ExcName → Option Value) (mg mb : Str → Option Value) (y : Int) (ty tt : Tok) : CtK w mean mg mb 115 8 [.int y ty, .str (Str.ofString "orthodox") tt] [] (fun a b c => Legal a b c ∧ gjd a b c = jE false y) := by
  unfold CtK
  k_fill
  intro dp un gd cn cs a ccd cl outer A₀ base h₀ L m s news Q E hB F X N T hk hd hu hret
  refine wpAny_call ?_
  k_dflt (refine' code_def ?k1 ?k2 ?k3 ?k4 ?k5 ?kA ?kF ?kK ?k6 ?k7 ?k8 ?k9 ?kB ?_ ?c2 ?c3 ?c4 ?c5; (case kA => exact rfl); (case kF => exact rfl); (case kK => assumption); (case k1 => k_asm); (case k2 => k_asm); (case k3 => k_asm); (case k4 => k_asm); (case k5 => k_asm); (case k6 => k_is); (case k7 => k_is); (case k8 => ktr_room); (case k9 => first | exact BindsTo.of_eq rfl | exact binds_K (by k_in) rfl (by k_is) rfl rfl rfl); (case c5 => decide); (case kB => exact locs rfl); (case c2 => exact rfl); (case c3 => exact rfl); (case c4 => exact rfl); k_whole; intro g' L' h' FG' F' N' B' X' T'; (try dsimp only); (try k_lift B'); (try k_fold))
  k_steps
  all_goals exact hret _ _ _ (by assumption) _ _ _ _ _ _ _ (by k_asm) (by first | k_asm | exact cb_drop (by k_asm) (by kcj_all)) (by first | assumption | (simp only [AllLt, and_true] at *; first | assumption | exact And.right (by assumption)))
set_option rowWalk.seconds 0 in
set_option maxHeartbeats 8000000 in
theorem c_eastE (w : World) (mean : ExcName → Option Value) (mg mb : Str → Option Value) (y : Int) (ty tt : Tok) : CtK w mean mg mb 115 8 [.int y ty, .str (Str.ofString "eastern") tt] [] (fun a b c => Legal a b c ∧ gjd a b c = jE true y) := by
  unfold CtK
  k_fill
  intro dp un gd cn cs a ccd cl outer A₀ base h₀ L m s news Q E hB F X N T hk hd hu hret
  refine wpAny_call ?_
  k_dflt (refine' code_def ?k1 ?k2 ?k3 ?k4 ?k5 ?kA ?kF ?kK ?k6 ?k7 ?k8 ?k9 ?kB ?_ ?c2 ?c3 ?c4 ?c5; (case kA => exact rfl); (case kF => exact rfl); (case kK => assumption); (case k1 => k_asm); (case k2 => k_asm); (case k3 => k_asm); (case k4 => k_asm); (case k5 => k_asm); (case k6 => k_is); (case k7 => k_is); (case k8 => ktr_room); (case k9 => first | exact BindsTo.of_eq rfl | exact binds_K (by k_in) rfl (by k_is) rfl rfl rfl); (case c5 => decide); (case kB => exact locs rfl); (case c2 => exact rfl); (case c3 => exact rfl); (case c4 => exact rfl); k_whole; intro g' L' h' FG' F' N' B' X' T'; (try dsimp only); (try k_lift B'); (try k_fold))
  k_steps
  all_goals exact hret _ _ _ (by assumption) _ _ _ _ _ _ _ (by k_asm) (by first | k_asm | exact cb_drop (by k_asm) (by kcj_all)) (by first | assumption | (simp only [AllLt, and_true] at *; first | assumption | exact And.right (by assumption)))
theorem legalW (y : Int) : Legal y (wM y) (wD y) := by
  have h := wL_bd y
  unfold Legal wM wD
  split <;> omega
def jW (y : Int) : Int := gjd y (wM y) (wD y)
end Mine
local macro_rules | `(tactic| walk_at "call ref") => `(tactic| (k_here; (with_reducible show wpAny _ _ (call (Value.ref 50) [Value.int _ _, Value.int _ _, Value.int _ _]) _ _ _); k_dflt (refine' useI (c_tojd _ _ _ _ _ _ _ _ _ _ ?kp) ?k1 ?k2 ?k3 ?k4 ?k5 ?kK ?kd ?ku ?_; (case kp => first | assumption | exact legalW _); (case k1 => k_asm); (case k2 => k_asm); (case k3 => k_asm); (case k4 => k_asm); (case k5 => k_asm); (case kK => first | exact rfl | assumption); (case kd => ktr_room); (case ku => ktr_units)); intro t9 h9 tk9 F9 N9; (try dsimp only); (try k_fold); walk_say "CUT tojd"))
local macro_rules | `(tactic| walk_at "call ref") => `(tactic| (k_here; (with_reducible show wpAny _ _ (call (Value.ref 86) [Value.int _ _]) _ _ _); k_dflt (refine' useT (c_fromjdj _ _ _ _ _ _ _ _ _ (legalJ_s _ _) ?kp) ?k1 ?k2 ?k3 ?k4 ?k5 ?kK ?kd ?ku ?_; (case kp => assumption); (case k1 => k_asm); (case k2 => k_asm); (case k3 => k_asm); (case k4 => k_asm); (case k5 => k_asm); (case kK => first | exact rfl | assumption); (case kd => ktr_room); (case ku => ktr_units)); intro x9 y9 z9 hP9; obtain ⟨e9, e9', e9''⟩ := hP9; subst z9; subst y9; subst x9; intro D9 ta9 tb9 tc9 cc9 h9 tk9 F9 N9 l9; (try simp only [AllLt, and_true] at l9); (try dsimp only); (try k_fold); walk_say "CUT fromjdj"))
local macro_rules | `(tactic| walk_at "call ref") => `(tactic| (k_here; (with_reducible show wpAny _ _ (call (Value.ref 115) [Value.int _ _, Value.str (Str.ofString "western") _]) _ _ _); k_dflt (refine' useK (c_eastW _ _ _ _ _ _ _ ?kp ?kq) ?k1 ?k2 ?k3 ?k4 ?k5 ?kK ?kd ?ku ?_; (case kp => omega); (case kq => omega); (case k1 => k_asm); (case k2 => k_asm); (case k3 => k_asm); (case k4 => k_asm); (case k5 => k_asm); (case kK => first | exact rfl | assumption); (case kd => ktr_room); (case ku => ktr_units)); intro x9 y9 z9 hP9; obtain ⟨e9, e9', e9''⟩ := hP9; subst z9; subst y9; subst x9; intro D9 ta9 tb9 tc9 cc9 h9 tk9 F9 N9 l9; (try simp only [AllLt, and_true] at l9); (try dsimp only); (try k_fold); walk_say "CUT easter W"))
local macro_rules | `(tactic| walk_at "call ref") => `(tactic| (k_here; (with_reducible show wpAny _ _ (call (Value.ref 115) [Value.int _ _, Value.str (Str.ofString "orthodox") _]) _ _ _); k_dflt (refine' useK (c_eastO _ _ _ _ _ _ _) ?k1 ?k2 ?k3 ?k4 ?k5 ?kK ?kd ?ku ?_; (case k1 => k_asm); (case k2 => k_asm); (case k3 => k_asm); (case k4 => k_asm); (case k5 => k_asm); (case kK => first | exact rfl | assumption); (case kd => ktr_room); (case ku => ktr_units)); intro x9 y9 z9 hP9; obtain ⟨e9, e9'⟩ := hP9; intro D9 ta9 tb9 tc9 cc9 h9 tk9 F9 N9 l9; (try simp only [AllLt, and_true] at l9); (try dsimp only); (try k_fold); walk_say "CUT easter O"))
local macro_rules | `(tactic| walk_at "call ref") => `(tactic| (k_here; (with_reducible show wpAny _ _ (call (Value.ref 115) [Value.int _ _, Value.str (Str.ofString "eastern") _]) _ _ _); k_dflt (refine' useK (c_eastE _ _ _ _ _ _ _) ?k1 ?k2 ?k3 ?k4 ?k5 ?kK ?kd ?ku ?_; (case k1 => k_asm); (case k2 => k_asm); (case k3 => k_asm); (case k4 => k_asm); (case k5 => k_asm); (case kK => first | exact rfl | assumption); (case kd => ktr_room); (case ku => ktr_units)); intro x9 y9 z9 hP9; obtain ⟨e9, e9'⟩ := hP9; intro D9 ta9 tb9 tc9 cc9 h9 tk9 F9 N9 l9; (try simp only [AllLt, and_true] at l9); (try dsimp only); (try k_fold); walk_say "CUT easter E"))
namespace Mine
set_option rowWalk.seconds 0 in
set_option maxHeartbeats 8000000 in
theorem c_dayW (w : World) (mean : ExcName → Option Value) (mg mb : Str → Option Value) (y : Int) (ty tt : Tok) (hy : 1583 ≤ y) (hy1 : y ≤ 9982) : CtI w mean mg mb 137 10 [.int y ty, .str (Str.ofString "western") tt] (jW y) := by
  unfold CtI
  k_fill
  intro dp un gd cn cs a ccd cl outer A₀ base h₀ L m s news Q E hB F X N T hk hd hu hret
  refine wpAny_call ?_
  k_dflt cell_enter
  k_steps
  all_goals (refine cb_retI hret ?_ (by k_asm) (by first | k_asm | exact cb_drop (by k_asm) (by kcj_all)); exact rfl)
set_option rowWalk.seconds 0 in
set_option maxHeartbeats 8000000 in
theorem c_dayO (w : World) (mean : ExcName → Option Value) (mg mb : Str → Option Value) (y : Int) (ty tt : Tok) : CtI w mean mg mb 137 10 [.int y ty, .str (Str.ofString "orthodox") tt] (jE false y) := by
  unfold CtI
  k_fill
  intro dp un gd cn cs a ccd cl outer A₀ base h₀ L m s news Q E hB F X N T hk hd hu hret
  refine wpAny_call ?_
  k_dflt cell_enter
  k_steps
  all_goals (refine cb_retI hret ?_ (by k_asm) (by first | k_asm | exact cb_drop (by k_asm) (by kcj_all)); assumption)
set_option rowWalk.seconds 0 in
set_option maxHeartbeats 8000000 in
theorem c_dayE (w : World) (mean : ExcName → Option Value) (mg mb : Str → Option Value) (y : Int) (ty tt : Tok) : CtI w mean mg mb 137 10 [.int y ty, .str (Str.ofString "eastern") tt] (jE true y) := by
  unfold CtI
  k_fill
  intro dp un gd cn cs a ccd cl outer A₀ base h₀ L m s news Q E hB F X N T hk hd hu hret
  refine wpAny_call ?_
  k_dflt cell_enter
  k_steps
  all_goals (refine cb_retI hret ?_ (by k_asm) (by first | k_asm | exact cb_drop (by k_asm) (by kcj_all)); assumption)
set_option rowWalk.seconds 0 in
set_option maxHeartbeats 8000000 in
theorem c_oldO (w : World) (mean : ExcName → Option Value) (mg mb : Str → Option Value) (y : Int) (ty tt : Tok) : CtT w mean mg mb 144 10 [.int y ty, .str (Str.ofString "orthodox") tt] (fun a b c => a = y ∧ b = sJ false y / 31 ∧ c = sJ false y % 31 + 1) := by
  unfold CtT
  k_fill
  intro dp un gd cn cs a ccd cl outer A₀ base h₀ L m s news Q E hB F X N T hk hd hu hret
  refine wpAny_call ?_
  k_dflt cell_enter
  k_steps
  all_goals exact hret _ _ _ ⟨rfl, rfl, rfl⟩ _ _ _ _ _ _ _ (by k_asm) (by first | k_asm | exact cb_drop (by k_asm) (by kcj_all)) (by first | assumption | (simp only [AllLt, and_true] at *; first | assumption | exact And.right (by assumption)))
set_option rowWalk.seconds 0 in
set_option maxHeartbeats 8000000 in
theorem c_oldE (w : World) (mean : ExcName → Option Value) (mg mb : Str → Option Value) (y : Int) (ty tt : Tok) : CtT w mean mg mb 144 10 [.int y ty, .str (Str.ofString "eastern") tt] (fun a b c => a = y ∧ b = sJ true y / 31 ∧ c = sJ true y % 31 + 1) := by
  unfold CtT
  k_fill
  intro dp un gd cn cs a ccd cl outer A₀ base h₀ L m s news Q E hB F X N T hk hd hu hret
  refine wpAny_call ?_
  k_dflt cell_enter
  k_steps
  all_goals exact hret _ _ _ ⟨rfl, rfl, rfl⟩ _ _ _ _ _ _ _ (by k_asm) (by first | k_asm | exact cb_drop (by k_asm) (by kcj_all)) (by first | assumption | (simp only [AllLt, and_true] at *; first | assumption | exact And.right (by assumption)))
inductive Lex : List (Value × Value) → Prop
  | nil : Lex []
  | lt (x y : Int) (t u : Tok) (r : List (Value × Value)) : x < y → Lex ((.int x t, .int y u) :: r)
  | eq (x : Int) (t u : Tok) (r : List (Value × Value)) : Lex r → Lex ((.int x t, .int x u) :: r)
section
variable {prog : Program} {w : World} {A : Around} {E : Value → Shared → Prop} {s : Shared}
theorem le_tree {a b : Addr} {xs ys : Array Value} {P : Fin → Shared → Prop} (hx : IsTup s.heap a xs) (hy : IsTup s.heap b ys) (hl : Lex (xs.toList.zip ys.toList)) (hs : xs.size = ys.size)
    (h : P (.done (.ret (.bool true))) s) : wpAny (model prog w) A (Builtin.«tuple.__le__» ⟨[.ref a, .ref b], []⟩) P E s := by
  have hTb := hy.typeIs
  obtain ⟨oa, hoa, _, na, hda⟩ := hx
  obtain ⟨ob, hob, _, nb, hdb⟩ := hy
  show wpAny _ _ (isInstance (.ref b) (.type "tuple") >>= _) _ _ s
  refine wpAny_bind (wpAny_isInstance hTb isSubtype_tuple_tuple ?_)
  simp only [Bool.not_true, Bool.false_eq_true, if_false]
  refine wpAny_bind (wpAny_tupleItemsOf hoa hda ?_)
  refine wpAny_bind (wpAny_tupleItemsOf hob hdb ?_)
  refine wpAny_bind ?_
  refine wpAny_forIn_list _ (fun rest r s' => r.1 = none ∧ s' = s ∧ Lex rest) _ ?_ ?_ _ _ ⟨rfl, rfl, hl⟩
  · rintro ⟨u, v⟩ rest r s' ⟨hr, rfl, hL⟩
    cases hL with
    | lt x y t u r hlt =>
      refine wpAny_bind (wpAny_eqBool_int ?_)
      have e : (x == y) = false := beq_eq_false_iff_ne.mpr (by omega)
      rw [e]
      simp only [Bool.not_false, if_true]
      refine wpAny_bind (wpAny_rule ?_)
      refine wpAny_bind ?_
      show wpAny _ _ (compareOp .LtE (.int x t) (.int y u)) _ _ _
      refine le_int ?_
      rw [decide_eq_true (by omega : x ≤ y)]
      exact wpAny_bind (wpAny_pure (wpAny_pure (wpAny_pure h)))
    | eq x t u r hr' =>
      refine wpAny_bind (wpAny_eqBool_int ?_)
      have e : (x == x) = true := beq_self_eq_true x
      rw [e]
      simp only [Bool.not_true, Bool.false_eq_true, if_false]
      exact wpAny_pure ⟨rfl, rfl, hr'⟩
  · rintro ⟨r1, r2⟩ s' ⟨hr, rfl, hL⟩
    simp only at hr
    subst hr
    have e : Builtin.Tuple.tupleCompareSizes CmpOp.LtE xs.size ys.size = .bool true := by
      rw [hs]
      show Value.bool (decide (ys.size ≤ ys.size)) = _
      rw [decide_eq_true (Nat.le_refl _)]
    show wpAny _ _ (ret (Builtin.Tuple.tupleCompareSizes CmpOp.LtE xs.size ys.size)) _ _ _
    rw [e]
    exact wpAny_pure h
theorem le_tup {a b : Addr} {xs ys : Array Value} {Q : Value → Shared → Prop} (hx : IsTup s.heap a xs) (hy : IsTup s.heap b ys) (hu : A.units < cLine) (hl : Lex (xs.toList.zip ys.toList)) (hs : xs.size = ys.size)
    (h : Q (.bool true) s) : wpAny (model prog w) A (compareOp .LtE (.ref a) (.ref b)) Q E s := by
  show wpAny _ _ (richCompare .LtE (.ref a) (.ref b)) Q E s
  exact wpAny_richCompare_same_room (op := .LtE) hx.typeIs hy.typeIs F.slot_tuple_le
    (wpAny_call_entry F.slot_tuple_le hx.typeIs F.entry_tuple_le (le_tree hx hy hl hs ⟨_, rfl, (fun e => nomatch e), h⟩) (F.args_tuple_le_2 _ _)) hu
end
theorem lex2 {x1 y1 x2 y2 : Int} {t1 t2 u1 u2 : Tok} (h : x1 < y1 ∨ (x1 = y1 ∧ x2 ≤ y2)) : Lex ((#[.int x1 t1, .int x2 t2] : Array Value).toList.zip (#[.int y1 u1, .int y2 u2] : Array Value).toList) := by
  rcases h with h | ⟨rfl, h⟩
  · exact Lex.lt _ _ _ _ _ h
  · by_cases e : x2 = y2
    · subst e; exact Lex.eq _ _ _ _ (Lex.eq _ _ _ _ Lex.nil)
    · exact Lex.eq _ _ _ _ (Lex.lt _ _ _ _ _ (by omega))
def CtD (w : World) (mean : ExcName → Option Value) (mg mb : Str → Option Value) (room : Nat) (y m d : Int) (t0 : Tok) : Prop :=
  ∀ (dp un : Nat) (gd : Option (List Code)) (cn : Str) (cs : Scope) (a : Addr) (ccd : Value) (cl : List (Str × Addr)) (outer : List Env) (A₀ : Around) (base h₀ : Heap) (L : Addr) (mm : Str → Option Value) (s : Shared) (news : List (Addr × Obj)) (Q E : Value → Shared → Prop) (D : Addr) (t1 t2 t3 : Tok) (c : Nat),
    Below A₀ base outer h₀ → Fr h₀ L s.heap mm → (hd.heap_39 w.params).In h₀ → News h₀ L s.heap news → Top hd.view_39 (looseW hd.view_39
    [Str.ofString "legal_date_gregorian", Str.ofString "to_jd_gregorian", Str.ofString "from_jd_gregorian",
      Str.ofString "legal_date_julian", Str.ofString "from_jd_julian", Str.ofString "to_jd_julian",
      Str.ofString "easter", Str.ofString "_easter_julian"]) mean mg mb h₀ → cs.kind = .function → (D, ({ cls := .type "tuple", data := .seq #[.int y t1, .int m t2, .int d t3] c } : Obj)) ∈ news → dp + room < recursionLimit → un + 8 * room < cLine →
    (∀ (h' : Heap) (tk' : Nat), Fr h₀ L h' mm → News h₀ L h' news → Q (.bool true) { s with heap := h', toks := tk' }) →
    wpAny (model PySem.Challenge.rw_bb0029_01.row.prog w) (ktrTop dp un gd cn cs L a ccd cl outer) (call (.ref 151) [.ref D, .int y t0]) Q E s
end Mine
local macro_rules | `(tactic| walk_at "subscriptTail") => `(tactic| (k_here; (with_reducible show wpAny _ _ (subscriptTail _ _ (Value.ref _) (Value.int _ _)) _ _ _); k_dflt (refine' item_tupleT ?t ?a ?b ?c ?d ?_; (case t => exact News.isTup (by k_asm) (by first | assumption | exact .tail _ (by assumption) | exact .tail _ (.tail _ (by assumption)))); (case a => decide); (case b => decide); (case c => rfl); (case d => rfl); k_whole); walk_say "MY ITEM"))
local macro_rules | `(tactic| walk_at "compareOp LtE ref") => `(tactic| (k_here; (with_reducible show wpAny _ _ (compareOp CmpOp.LtE (Value.ref _) (Value.ref _)) _ _ _); k_dflt (refine' le_tup ?x ?y ?u ?l ?s ?_; (case x => exact News.isTup (by k_asm) (by k_mem)); (case y => exact News.isTup (by k_asm) (by k_mem)); (case u => ktr_units); (case l => exact lex2 (by omega)); (case s => rfl); k_whole); walk_say "TUPLES LE"))
namespace Mine
set_option rowWalk.seconds 0 in
set_option maxHeartbeats 8000000 in
theorem c_intime (w : World) (mean : ExcName → Option Value) (mg mb : Str → Option Value) (y mo d : Int) (t0 : Tok) (hm : (mo = 3 ∧ 22 ≤ d) ∨ (mo = 4 ∧ d ≤ 25)) : CtD w mean mg mb 2 y mo d t0 := by
  unfold CtD
  k_fill
  intro dp un gd cn cs a ccd cl outer A₀ base h₀ L m s news Q E D t1 t2 t3 c hB F X N T hk hD hd hu hret
  refine wpAny_call ?_
  k_dflt cell_enter
  k_steps
  all_goals (refine cb_retB (fun _ => hret) ?_ (by k_asm) (by first | k_asm | exact cb_drop (by k_asm) (by kcj_all)); first | rfl | exact beq_self_eq_true y)
theorem useD {w : World} {mean : ExcName → Option Value} {mg mb : Str → Option Value} {room : Nat} {y mo d : Int} {t0 : Tok} {dp un : Nat} {gd : Option (List Code)} {cn : Str} {cs : Scope} {a : Addr} {ccd : Value} {cl : List (Str × Addr)} {outer : List Env} {A₀ : Around} {base h₀ : Heap} {L : Addr} {mm : Str → Option Value} {s : Shared} {news : List (Addr × Obj)} {Q E : Value → Shared → Prop} {D : Addr} {t1 t2 t3 : Tok} {c : Nat} (C : CtD w mean mg mb room y mo d t0) (B : Below A₀ base outer h₀) (F : Fr h₀ L s.heap mm) (X : (hd.heap_39 w.params).In h₀) (N : News h₀ L s.heap news) (T : Top hd.view_39 (looseW hd.view_39
    [Str.ofString "legal_date_gregorian", Str.ofString "to_jd_gregorian", Str.ofString "from_jd_gregorian",
      Str.ofString "legal_date_julian", Str.ofString "from_jd_julian", Str.ofString "to_jd_julian",
      Str.ofString "easter", Str.ofString "_easter_julian"]) mean mg mb h₀) (hk : cs.kind = .function) (hm : (D, ({ cls := .type "tuple", data := .seq #[.int y t1, .int mo t2, .int d t3] c } : Obj)) ∈ news) (hd : dp + room < recursionLimit) (hu : un + 8 * room < cLine)
    (ret : ∀ (h' : Heap) (tk' : Nat), Fr h₀ L h' mm → News h₀ L h' news → Q (.bool true) { s with heap := h', toks := tk' }) :
    wpAny (model PySem.Challenge.rw_bb0029_01.row.prog w) (ktrTop dp un gd cn cs L a ccd cl outer) (call (.ref 151) [.ref D, .int y t0]) Q E s := C _ _ _ _ _ _ _ _ _ _ _ _ _ _ _ _ _ _ _ _ _ _ _ B F X N T hk hm hd hu ret
/-- the julian Easter's day number, plainly -/
theorem jE_eq (ea : Bool) (y : Int) : jE ea y = 365 * y + y / 4 + 1721025 + sJ ea y := by
  have h := s_nonneg ea y
  unfold jE jjd
  generalize sJ ea y = S at *
  have hm : S / 31 = 3 ∨ S / 31 = 4 := by omega
  rcases hm with e | e <;> rw [e] <;> omega
theorem dJ_bd (ea : Bool) (y : Int) : 0 ≤ dJ ea y ∧ dJ ea y ≤ 28 := by
  unfold dJ
  have h : y % 19 = 0 ∨ y % 19 = 1 ∨ y % 19 = 2 ∨ y % 19 = 3 ∨ y % 19 = 4 ∨ y % 19 = 5 ∨ y % 19 = 6 ∨ y % 19 = 7 ∨ y % 19 = 8 ∨ y % 19 = 9 ∨ y % 19 = 10 ∨ y % 19 = 11 ∨ y % 19 = 12 ∨ y % 19 = 13 ∨ y % 19 = 14 ∨ y % 19 = 15 ∨ y % 19 = 16 ∨ y % 19 = 17 ∨ y % 19 = 18 := by omega
  rcases h with e | e | e | e | e | e | e | e | e | e | e | e | e | e | e | e | e | e | e <;> rw [e] <;> split <;> omega
theorem J_time (ea : Bool) (y : Int) : (sJ ea y / 31 = 3 ∧ 22 ≤ sJ ea y % 31 + 1) ∨ (sJ ea y / 31 = 4 ∧ sJ ea y % 31 + 1 ≤ 25) := by
  have h := dJ_bd ea y
  have h2 : 114 ≤ sJ ea y ∧ sJ ea y ≤ 148 := by unfold sJ; omega
  omega
theorem J_period (ea : Bool) (y k : Int) : sJ ea (y + 532 * k) = sJ ea y := by
  have e1 : (y + 532 * k) % 19 = y % 19 := by omega
  have e2 : (y + 532 * k) % 4 = y % 4 := by omega
  have e3 : (y + 532 * k) % 7 = y % 7 := by omega
  unfold sJ dJ
  rw [e1, e2, e3]
theorem J_six (ea : Bool) (y : Int) : jE ea y % 7 = 6 := by
  rw [jE_eq]
  unfold sJ
  generalize dJ ea y = d
  omega
theorem J_step (ea : Bool) (y : Int) : jE ea (y + 1) - jE ea y = 350 ∨ jE ea (y + 1) - jE ea y = 357 ∨ jE ea (y + 1) - jE ea y = 378 ∨ jE ea (y + 1) - jE ea y = 385 := by
  have h1 := J_six ea y
  have h2 := J_six ea (y + 1)
  have hd : (-12 ≤ dJ ea (y + 1) - dJ ea y ∧ dJ ea (y + 1) - dJ ea y ≤ -11) ∨ (18 ≤ dJ ea (y + 1) - dJ ea y ∧ dJ ea (y + 1) - dJ ea y ≤ 19) := by
    unfold dJ
    have h : y % 19 = 0 ∨ y % 19 = 1 ∨ y % 19 = 2 ∨ y % 19 = 3 ∨ y % 19 = 4 ∨ y % 19 = 5 ∨ y % 19 = 6 ∨ y % 19 = 7 ∨ y % 19 = 8 ∨ y % 19 = 9 ∨ y % 19 = 10 ∨ y % 19 = 11 ∨ y % 19 = 12 ∨ y % 19 = 13 ∨ y % 19 = 14 ∨ y % 19 = 15 ∨ y % 19 = 16 ∨ y % 19 = 17 ∨ y % 19 = 18 := by omega
    have hn : (y + 1) % 19 = (y % 19 + 1) % 19 := by omega
    rw [hn]
    rcases h with e | e | e | e | e | e | e | e | e | e | e | e | e | e | e | e | e | e | e <;> rw [e] <;> cases ea <;> simp
  rw [jE_eq ea y] at h1 ⊢
  rw [jE_eq ea (y + 1)] at h2 ⊢
  unfold sJ at h1 h2 ⊢
  generalize dJ ea (y + 1) = d' at *
  generalize dJ ea y = d at *
  generalize (2 * (y % 4) + 4 * (y % 7) - d + 6) = X at *
  generalize (2 * ((y + 1) % 4) + 4 * ((y + 1) % 7) - d' + 6) = X' at *
  omega
/-- the western Easter's day number, plainly -/
theorem jW_eq (y : Int) : jW y = 1721147 + 365 * y + y / 4 - y / 100 + y / 400 + wL y := by
  unfold jW gjd wM wD
  generalize wL y = L
  have hl : (if LeapP y then (-1 : Int) else -2) = y / 4 - (y - 1) / 4 - (y / 100 - (y - 1) / 100) + (y / 400 - (y - 1) / 400) - 2 := by
    by_cases h : LeapP y
    · have h' : y % 4 = 0 ∧ (y % 100 ≠ 0 ∨ y % 400 = 0) := h
      rw [if_pos h]; omega
    · have h' : ¬ (y % 4 = 0 ∧ (y % 100 ≠ 0 ∨ y % 400 = 0)) := h
      rw [if_neg h]; omega
  rw [hl]
  by_cases hL : L ≤ 3
  · simp only [if_pos hL]
    rw [if_neg (by decide)]
    omega
  · simp only [if_neg hL]
    rw [if_neg (by decide)]
    omega
theorem W_time (y : Int) : (wM y = 3 ∧ 22 ≤ wD y) ∨ (wM y = 4 ∧ wD y ≤ 25) := by
  have h := wL_bd y
  unfold wM wD
  split <;> omega
theorem W_six (y : Int) : jW y % 7 = 6 := by
  rw [jW_eq]
  unfold wL wJ
  generalize wI y = I
  have e : y / 100 / 4 = y / 400 := by omega
  rw [e]
  omega
def aC (c : Int) : Int := c - c / 4 - (c - (if c < 17 then 0 else (c - 17) / 25)) / 3 + 15
def aW (y : Int) : Int := aC (y / 100)
theorem wI0_eq (y : Int) : wI0 y = (aW y + 19 * (y % 19)) % 30 := by
  unfold wI0 aW aC wK
  congr 1
  omega
theorem wI_near (y : Int) : wI0 y - 1 ≤ wI y ∧ wI y ≤ wI0 y ∧ (wI0 y ≤ 27 → wI y = wI0 y) ∧ 0 ≤ wI0 y ∧ wI0 y ≤ 29 := by
  have h : 0 ≤ wI0 y ∧ wI0 y < 30 := by unfold wI0; omega
  unfold wI
  split
  · omega
  · split <;> omega
theorem aC_step : ∀ n : Fin 84, ((15 + (n.val : Int) + 1) % 4 = 0 ∧ -1 ≤ aC (15 + (n.val : Int) + 1) - aC (15 + (n.val : Int)) ∧ aC (15 + (n.val : Int) + 1) - aC (15 + (n.val : Int)) ≤ 0) ∨ ((15 + (n.val : Int) + 1) % 4 ≠ 0 ∧ 0 ≤ aC (15 + (n.val : Int) + 1) - aC (15 + (n.val : Int)) ∧ aC (15 + (n.val : Int) + 1) - aC (15 + (n.val : Int)) ≤ 1) := by
  decide +kernel
theorem aC_step' {c : Int} (h0 : 15 ≤ c) (h1 : c ≤ 98) : ((c + 1) % 4 = 0 ∧ -1 ≤ aC (c + 1) - aC c ∧ aC (c + 1) - aC c ≤ 0) ∨ ((c + 1) % 4 ≠ 0 ∧ 0 ≤ aC (c + 1) - aC c ∧ aC (c + 1) - aC c ≤ 1) := by
  have h := aC_step ⟨(c - 15).toNat, by omega⟩
  have e : (15 + (((c - 15).toNat : Nat) : Int)) = c := by omega
  simp only [e] at h
  exact h
theorem aW_step {y : Int} (h0 : 1583 ≤ y) (h1 : y ≤ 9981) : aW (y + 1) = aW y ∨ ((y + 1) % 400 = 0 ∧ -1 ≤ aW (y + 1) - aW y ∧ aW (y + 1) - aW y ≤ 0) ∨ ((y + 1) % 100 = 0 ∧ (y + 1) % 400 ≠ 0 ∧ 0 ≤ aW (y + 1) - aW y ∧ aW (y + 1) - aW y ≤ 1) := by
  unfold aW
  have hc : (y + 1) / 100 = y / 100 ∨ ((y + 1) / 100 = y / 100 + 1 ∧ (y + 1) % 100 = 0) := by omega
  rcases hc with e | ⟨e, h100⟩
  · rw [e]; exact Or.inl rfl
  · rw [e]
    have hd : (y + 1) % 400 = 0 ↔ (y / 100 + 1) % 4 = 0 := by omega
    have ha := aC_step' (c := y / 100) (by omega) (by omega)
    rcases ha with ha | ha
    · exact Or.inr (Or.inl ⟨hd.mpr ha.1, ha.2⟩)
    · exact Or.inr (Or.inr ⟨h100, fun h => ha.1 (hd.mp h), ha.2⟩)
theorem wI_step {y : Int} (h0 : 1583 ≤ y) (h1 : y ≤ 9981) : (16 ≤ wI (y + 1) - wI y ∧ wI (y + 1) - wI y ≤ 20 ∧ ((y + 1) % 4 = 0 → (y + 1) % 100 ≠ 0 ∨ (y + 1) % 400 = 0 → wI (y + 1) - wI y ≤ 19)) ∨ (-14 ≤ wI (y + 1) - wI y ∧ wI (y + 1) - wI y ≤ -9) := by
  have a := wI_near y
  have b := wI_near (y + 1)
  have c := aW_step h0 h1
  rw [wI0_eq] at a b
  generalize wI y = I at *
  generalize wI (y + 1) = I' at *
  generalize aW y = A at *
  generalize aW (y + 1) = A' at *
  have hn : (y % 19 ≤ 17 ∧ (y + 1) % 19 = y % 19 + 1) ∨ (y % 19 = 18 ∧ (y + 1) % 19 = 0) := by omega
  generalize (y + 1) % 19 = n' at *
  generalize y % 19 = n at *
  omega
theorem W_leap (y : Int) : ((y + 1) / 4 - (y + 1) / 100 + (y + 1) / 400 - (y / 4 - y / 100 + y / 400) = 1 ∧ (y + 1) % 4 = 0 ∧ ((y + 1) % 100 ≠ 0 ∨ (y + 1) % 400 = 0)) ∨ (y + 1) / 4 - (y + 1) / 100 + (y + 1) / 400 - (y / 4 - y / 100 + y / 400) = 0 := by
  have h4 : ((y + 1) / 4 = y / 4 + 1 ∧ (y + 1) % 4 = 0) ∨ ((y + 1) / 4 = y / 4 ∧ (y + 1) % 4 ≠ 0) := by omega
  have h100 : ((y + 1) / 100 = y / 100 + 1 ∧ (y + 1) % 100 = 0) ∨ ((y + 1) / 100 = y / 100 ∧ (y + 1) % 100 ≠ 0) := by omega
  have h400 : ((y + 1) / 400 = y / 400 + 1 ∧ (y + 1) % 400 = 0) ∨ ((y + 1) / 400 = y / 400 ∧ (y + 1) % 400 ≠ 0) := by omega
  have hx : (y + 1) % 400 = 0 → (y + 1) % 100 = 0 := by omega
  have hz : (y + 1) % 100 = 0 → (y + 1) % 4 = 0 := by omega
  generalize (y + 1) / 4 = a' at *
  generalize (y + 1) / 100 = b' at *
  generalize (y + 1) / 400 = c' at *
  generalize y / 4 = a at *
  generalize y / 100 = b at *
  generalize y / 400 = c at *
  generalize (y + 1) % 4 = p at *
  generalize (y + 1) % 100 = q at *
  generalize (y + 1) % 400 = r at *
  omega
theorem W_last {D Z d e : Int} (h7 : D % 7 = 0) (hD : D = 365 + Z + d - e) (hz : 0 ≤ Z ∧ Z ≤ 1) (he : -6 ≤ e ∧ e ≤ 6) (hd : (16 ≤ d ∧ d ≤ 20 ∧ (Z = 1 → d ≤ 19)) ∨ (-14 ≤ d ∧ d ≤ -9)) : D = 350 ∨ D = 357 ∨ D = 378 ∨ D = 385 := by omega
theorem W_step {y : Int} (h0 : 1583 ≤ y) (h1 : y ≤ 9981) : jW (y + 1) - jW y = 350 ∨ jW (y + 1) - jW y = 357 ∨ jW (y + 1) - jW y = 378 ∨ jW (y + 1) - jW y = 385 := by
  have a := W_six y
  have b := W_six (y + 1)
  have c := wI_step h0 h1
  have l := W_leap y
  have h2 : 0 ≤ wJ y ∧ wJ y < 7 := by unfold wJ; omega
  have h3 : 0 ≤ wJ (y + 1) ∧ wJ (y + 1) < 7 := by unfold wJ; omega
  have hD : jW (y + 1) - jW y = 365 + ((y + 1) / 4 - (y + 1) / 100 + (y + 1) / 400 - (y / 4 - y / 100 + y / 400)) + (wI (y + 1) - wI y) - (wJ (y + 1) - wJ y) := by
    rw [jW_eq y, jW_eq (y + 1)]
    unfold wL
    generalize (y + 1) / 4 = a'
    generalize (y + 1) / 100 = b'
    generalize (y + 1) / 400 = c'
    generalize y / 4 = a
    generalize y / 100 = b
    generalize y / 400 = c
    omega
  have h7 : (jW (y + 1) - jW y) % 7 = 0 := by
    clear hD c l
    omega
  refine W_last h7 hD ?_ (by omega) ?_
  · rcases l with l | l
    · rw [l.1]; decide
    · rw [l]; decide
  · rcases c with c | c
    · refine Or.inl ⟨c.1, c.2.1, fun hz => ?_⟩
      rcases l with l | l
      · exact c.2.2 l.2.1 l.2.2
      · rw [l] at hz; exact absurd hz (by decide)
    · exact Or.inr c
/-- Δ: the two moons are 3, 4, 5 or 6 days apart, or 30 more -/
theorem aC_near : ∀ n : Fin 9, 3 ≤ (15 + (n.val : Int)) - (15 + (n.val : Int)) / 4 + 13 - aC (15 + (n.val : Int)) ∧ (15 + (n.val : Int)) - (15 + (n.val : Int)) / 4 + 13 - aC (15 + (n.val : Int)) ≤ 5 ∧ 15 ≤ aC (15 + (n.val : Int)) ∧ aC (15 + (n.val : Int)) ≤ 29 := by
  decide +kernel
theorem aC_near' {c : Int} (h0 : 15 ≤ c) (h1 : c ≤ 23) : 3 ≤ c - c / 4 + 13 - aC c ∧ c - c / 4 + 13 - aC c ≤ 5 ∧ 15 ≤ aC c ∧ aC c ≤ 29 := by
  have h := aC_near ⟨(c - 15).toNat, by omega⟩
  have e : (15 + (((c - 15).toNat : Nat) : Int)) = c := by omega
  simp only [e] at h
  exact h
theorem near_moon {A n d I I0 : Int} (hI0 : I0 = (A + 19 * n) % 30) (hd : d = (19 * n + 15) % 30) (hA : 15 < A ∧ A ≤ 29) (hI : I0 - 1 ≤ I ∧ I ≤ I0 ∧ (I0 ≤ 27 → I = I0)) : (d - I = 15 - A ∨ d - I = 16 - A) ∨ d - I = 45 - A := by omega
theorem near_last {D x e J : Int} (h7 : D % 7 = 0) (hD : D = x + e + J - 6) (he : 0 ≤ e ∧ e ≤ 6) (hJ : 0 ≤ J ∧ J ≤ 6) (hx : (3 ≤ x ∧ x ≤ 6) ∨ (33 ≤ x ∧ x ≤ 35)) : D = 0 ∨ D = 7 ∨ D = 28 ∨ D = 35 := by omega
theorem near_all {y : Int} (h0 : 1583 ≤ y) (h1 : y ≤ 2399) : jE false y - jW y = 0 ∨ jE false y - jW y = 7 ∨ jE false y - jW y = 28 ∨ jE false y - jW y = 35 := by
  have a := W_six y
  have b := J_six false y
  have n := aC_near' (c := y / 100) (by omega) (by omega)
  have w := wI_near y
  have i0 := wI0_eq y
  have hd : dJ false y = (19 * (y % 19) + 15) % 30 := by
    unfold dJ
    rw [if_neg (by simp)]
    omega
  have m := near_moon i0 hd (by unfold aW; omega) ⟨w.1, w.2.1, w.2.2.1⟩
  have h2 : 0 ≤ wJ y ∧ wJ y < 7 := by unfold wJ; omega
  have hS : ∃ e, 0 ≤ e ∧ e ≤ 6 ∧ sJ false y = 114 + dJ false y + e := by
    refine ⟨(2 * (y % 4) + 4 * (y % 7) - dJ false y + 6) % 7, by omega, by omega, rfl⟩
  obtain ⟨e, he0, he1, hS⟩ := hS
  refine near_last (x := dJ false y - wI y + y / 100 - y / 100 / 4 - 2) (e := e) (J := wJ y) (by clear m n w hS; omega) ?_ ⟨he0, he1⟩ (by omega) ?_
  · rw [jE_eq, jW_eq, hS]
    unfold wL
    have e4 : y / 100 / 4 = y / 400 := by omega
    rw [e4]
    generalize y / 4 = p
    generalize y / 100 = q
    generalize y / 400 = r
    omega
  · unfold aW at m
    generalize y / 100 / 4 = q at *
    generalize aC (y / 100) = A at *
    generalize y / 100 = c at *
    clear a b i0 hd hS w
    omega
theorem two_of {ws : List Value} {ns : List Int} (h : IntsAre ws (List.take 2 (List.take 2 ns ++ [0, 0]))) : ∃ a b ta tb, ws = [.int a ta, .int b tb] := by
  have key : ∀ (l : List Int) (v : List Value), IntsAre v l → ∀ a b, l = [a, b] → ∃ a b ta tb, v = [.int a ta, .int b tb] := by
    intro l v hv a b hl
    subst hl
    cases hv with
    | cons n t h1 =>
      cases h1 with
      | cons n2 t2 h2 =>
        cases h2
        exact ⟨_, _, _, _, rfl⟩
  match ns with
  | [] => exact key _ _ h 0 0 rfl
  | [x] => exact key _ _ h x 0 rfl
  | x :: y :: r => exact key _ _ h x y rfl
section
variable {prog : Program} {w : World} {A : Around} {E : Value → Shared → Prop} {s : Shared}
theorem notin4 {t : Addr} {x p q r z : Int} {tp tq tr tz u : Tok} {Q : Value → Shared → Prop} (ht : IsTup s.heap t #[.int p tp, .int q tq, .int r tr, .int z tz]) (hf : x = p ∨ x = q ∨ x = r ∨ x = z)
    (h : Q (.bool false) s) : wpAny (model prog w) A (compareOp .NotIn (.int x u) (.ref t)) Q E s := by
  refine notin_tuple_ints ht (.cons _ _ (.cons _ _ (.cons _ _ (.cons _ _ .nil)))) ?_
  have e : (([p, q, r, z] : List Int).any (· == x)) = true := by
    rcases hf with rfl | rfl | rfl | rfl <;> simp
  rw [e]
  exact h
theorem noteq6 {x : Int} {t u : Tok} {Q : Value → Shared → Prop} (hf : x = 6) (h : Q (.bool false) s) : wpAny (model prog w) A (compareOp .NotEq (.int x t) (.int 6 u)) Q E s := by
  subst hf
  refine ne_int ?_
  exact h
end
theorem W_six6 (y : Int) : (jW y).fmod 7 = 6 := by rw [fm (by omega)]; exact W_six y
theorem J_six6 (ea : Bool) (y : Int) : (jE ea y).fmod 7 = 6 := by rw [fm (by omega)]; exact J_six ea y
end Mine
local macro_rules | `(tactic| walk_at "call ref") => `(tactic| (k_here; (with_reducible show wpAny _ _ (call (Value.ref 137) [Value.int _ _, Value.str (Str.ofString "western") _]) _ _ _); k_dflt (refine' useI (c_dayW _ _ _ _ _ _ _ ?kp ?kq) ?k1 ?k2 ?k3 ?k4 ?k5 ?kK ?kd ?ku ?_; (case kp => omega); (case kq => omega); (case k1 => k_asm); (case k2 => k_asm); (case k3 => k_asm); (case k4 => k_asm); (case k5 => k_asm); (case kK => first | exact rfl | assumption); (case kd => ktr_room); (case ku => ktr_units)); intro t9 h9 tk9 F9 N9; (try dsimp only); (try k_fold); walk_say "CUT dayW"))
local macro_rules | `(tactic| walk_at "call ref") => `(tactic| (k_here; (with_reducible show wpAny _ _ (call (Value.ref 137) [Value.int _ _, Value.str (Str.ofString "orthodox") _]) _ _ _); k_dflt (refine' useI (c_dayO _ _ _ _ _ _ _) ?k1 ?k2 ?k3 ?k4 ?k5 ?kK ?kd ?ku ?_; (case k1 => k_asm); (case k2 => k_asm); (case k3 => k_asm); (case k4 => k_asm); (case k5 => k_asm); (case kK => first | exact rfl | assumption); (case kd => ktr_room); (case ku => ktr_units)); intro t9 h9 tk9 F9 N9; (try dsimp only); (try k_fold); walk_say "CUT dayO"))
local macro_rules | `(tactic| walk_at "call ref") => `(tactic| (k_here; (with_reducible show wpAny _ _ (call (Value.ref 137) [Value.int _ _, Value.str (Str.ofString "eastern") _]) _ _ _); k_dflt (refine' useI (c_dayE _ _ _ _ _ _ _) ?k1 ?k2 ?k3 ?k4 ?k5 ?kK ?kd ?ku ?_; (case k1 => k_asm); (case k2 => k_asm); (case k3 => k_asm); (case k4 => k_asm); (case k5 => k_asm); (case kK => first | exact rfl | assumption); (case kd => ktr_room); (case ku => ktr_units)); intro t9 h9 tk9 F9 N9; (try dsimp only); (try k_fold); walk_say "CUT dayE"))
local macro_rules | `(tactic| walk_at "call ref") => `(tactic| (k_here; (with_reducible show wpAny _ _ (call (Value.ref 144) [Value.int _ _, Value.str (Str.ofString "orthodox") _]) _ _ _); k_dflt (refine' useT (c_oldO _ _ _ _ _ _ _) ?k1 ?k2 ?k3 ?k4 ?k5 ?kK ?kd ?ku ?_; (case k1 => k_asm); (case k2 => k_asm); (case k3 => k_asm); (case k4 => k_asm); (case k5 => k_asm); (case kK => first | exact rfl | assumption); (case kd => ktr_room); (case ku => ktr_units)); intro x9 y9 z9 hP9; obtain ⟨e9, e9', e9''⟩ := hP9; (try rw [J_period] at e9' e9''); subst z9; subst y9; subst x9; intro D9 ta9 tb9 tc9 cc9 h9 tk9 F9 N9 l9; (try simp only [AllLt, and_true] at l9); (try dsimp only); (try k_fold); walk_say "CUT oldO"))
local macro_rules | `(tactic| walk_at "call ref") => `(tactic| (k_here; (with_reducible show wpAny _ _ (call (Value.ref 144) [Value.int _ _, Value.str (Str.ofString "eastern") _]) _ _ _); k_dflt (refine' useT (c_oldE _ _ _ _ _ _ _) ?k1 ?k2 ?k3 ?k4 ?k5 ?kK ?kd ?ku ?_; (case k1 => k_asm); (case k2 => k_asm); (case k3 => k_asm); (case k4 => k_asm); (case k5 => k_asm); (case kK => first | exact rfl | assumption); (case kd => ktr_room); (case ku => ktr_units)); intro x9 y9 z9 hP9; obtain ⟨e9, e9', e9''⟩ := hP9; (try rw [J_period] at e9' e9''); subst z9; subst y9; subst x9; intro D9 ta9 tb9 tc9 cc9 h9 tk9 F9 N9 l9; (try simp only [AllLt, and_true] at l9); (try dsimp only); (try k_fold); walk_say "CUT oldE"))
local macro_rules | `(tactic| walk_at "call ref") => `(tactic| (k_here; (with_reducible show wpAny _ _ (call (Value.ref 115) [Value.int _ _, Value.str (Str.ofString "western") _]) _ _ _); k_dflt (refine' useK (c_eastW _ _ _ _ _ _ _ ?kp ?kq) ?k1 ?k2 ?k3 ?k4 ?k5 ?kK ?kd ?ku ?_; (case kp => omega); (case kq => omega); (case k1 => k_asm); (case k2 => k_asm); (case k3 => k_asm); (case k4 => k_asm); (case k5 => k_asm); (case kK => first | exact rfl | assumption); (case kd => ktr_room); (case ku => ktr_units)); intro x9 y9 z9 hP9; obtain ⟨e9, e9', e9''⟩ := hP9; subst z9; subst y9; subst x9; intro D9 ta9 tb9 tc9 cc9 h9 tk9 F9 N9 l9; (try simp only [AllLt, and_true] at l9); (try dsimp only); (try k_fold); walk_say "CUT easterW"))
local macro_rules | `(tactic| walk_at "call ref") => `(tactic| (k_here; (with_reducible show wpAny _ _ (call (Value.ref 151) [Value.ref _, Value.int _ _]) _ _ _); k_dflt (refine' useD (c_intime _ _ _ _ _ _ _ _ ?kp) ?k1 ?k2 ?k3 ?k4 ?k5 ?kK ?km ?kd ?ku ?_; (case k1 => k_asm); (case k2 => k_asm); (case k3 => k_asm); (case k4 => k_asm); (case k5 => k_asm); (case kK => first | exact rfl | assumption); (case km => k_mem); (case kp => first | exact W_time _ | exact J_time _ _); (case kd => ktr_room); (case ku => ktr_units)); intro h9 tk9 F9 N9; (try dsimp only); (try k_fold); walk_say "CUT intime"))
local macro_rules | `(tactic| walk_at "compareOp NotIn int ref") => `(tactic| (k_here; k_dflt (refine' notin4 ?t ?f ?_; (case t => exact News.isTup (by k_asm) (by k_mem)); (case f => first | exact near_all (by omega) (by omega) | exact W_step (by omega) (by omega) | exact J_step _ _); k_whole); walk_say "NOT IN 4"))
local macro_rules | `(tactic| walk_at "compareOp NotEq int int") => `(tactic| (k_here; (with_reducible show wpAny _ _ (compareOp CmpOp.NotEq (Value.int _ _) (Value.int 6 _)) _ _ _); k_dflt (refine' noteq6 ?f ?_; (case f => first | exact W_six6 _ | exact J_six6 _ _)); walk_say "SUNDAY"))
namespace Mine
end Mine
set_option maxRecDepth 100000 in
set_option rowWalk.seconds 0 in
set_option maxHeartbeats 8000000 in
theorem PySem.Challenge.cw_bb0029_01_holds : PySem.Challenge.rw_bb0029_01.Holds := by
  refine Mine.hd ?_
  k_go0
  all_goals (try k_fold)
  k_steps
  (rename IntsAre _ (List.take 2 (List.take 2 _ ++ [0, 0])) => hI2)
  obtain ⟨a, b, ta, tb, e⟩ := Mine.two_of hI2
  subst e
  clear hI2
  have hn1 : 0 ≤ (if a < 0 then -a else a).fmod 817 ∧ (if a < 0 then -a else a).fmod 817 ≤ 816 := by rw [fm (by omega)]; omega
  have hn2 : 0 ≤ (if a < 0 then -a else a).fmod 8399 ∧ (if a < 0 then -a else a).fmod 8399 ≤ 8398 := by rw [fm (by omega)]; omega
  obtain ⟨hn11, hn12⟩ := hn1
  obtain ⟨hn21, hn22⟩ := hn2
  k_steps
  all_goals w_report
