import PyProof.Rows.All
import Wide.All
import OpenK.AllK
import Wide.FinOn
import PySem.Challenge.RW_pg0232_01

open PySem PySem.W PyProof.Rows PySem.Calls PySem.Flt
set_option Elab.async false
set_option linter.unusedVariables false
set_option linter.unusedSimpArgs false
set_option maxRecDepth 100000
set_option maxHeartbeats 0
set_option genSizeOf false
set_option genInjectivity true
set_option compiler.extract_closed false

set_option hygiene false
local macro_rules | `(tactic| walk_at "my om") => `(tactic| first | assumption | (with_reducible first | exact Nat.lt_of_le_of_lt ‹_› (by decide) | exact Nat.le_trans ‹_› (by decide) | exact Nat.le_trans (Nat.succ_le_succ ‹_›) (by decide) | exact Nat.lt_of_lt_of_le ‹_› (by decide) | exact Nat.sub_le_sub_right ‹_› _ | exact Nat.sub_le _ _ | exact Nat.add_sub_of_le ‹_› | exact Nat.add_sub_cancel_left .. | exact Nat.add_sub_cancel .. | exact Nat.le_add_right .. | exact Nat.le_add_left .. | exact Nat.add_lt_of_lt_sub' ‹_› | exact Nat.le_of_lt ‹_› | exact Nat.le_of_lt_succ ‹_› | exact Nat.le_trans ‹_› ‹_› | exact Nat.lt_of_lt_of_le ‹_› ‹_› | exact Nat.lt_of_le_of_lt ‹_› ‹_› | (with_reducible refine Int.emod_nonneg _ ?_; decide) | (with_reducible refine Int.emod_lt_of_pos _ ?_; decide)) | lia | omega/-k-/)
local macro_rules | `(tactic| walk_at "my ol") => `(tactic| first | assumption | lia | omega/-k-/)
set_option hygiene true

namespace Mine
noncomputable def kE (P : Params) (s : Str) (i : Nat) (v : Value) : DictEntry := { hash := PyData.keyHash P s, key := .str s i, val := v }
noncomputable def kT (i : Nat) : Stmt := (PySem.Challenge.rw_pg0232_01.row.prog.main.body)[i]?.getD (.Pass default)
noncomputable def kM (s : Stmt) : Str := match s with
  | .FunctionDef n _ _ _ _ _ _ _ _ _ => n
  | _ => default
noncomputable def kN (i : Nat) : Str := kM (kT i)
noncomputable def kC (j : Nat) (i : Nat) (l c k : Int) (r : Addr) (a b d e f : Value) (m : Int) : Obj := { cls := .type "code", data := .fields #[.str (kN j) i, .str (kN j) (i + 1), .str "/claim/cut.py" (i + 2), .int l 0, .int c 0, .int 0 0, .int k 0, .int 3 0, .ref r, .bool true, .int 181 0, a, b, d, e, f, .int m 0, .int l 0, .str "/claim/cut.py" (m.toNat + 1)] }
noncomputable def kS (s : Stmt) (df kd pm : Value) (c : Addr) : Obj := match s with
  | .FunctionDef n a b _ _ _ sc _ _ _ => { cls := .type "function", data := .func { name := n, qualname := n, params := a, body := .stmts b, scope := sc, globals := 3, closure := [], defaults := df, kwdefaults := kd, pyModule := pm, code := .ref c } }
  | _ => default
noncomputable def kF (i : Nat) (df kd pm : Value) (c : Addr) : Obj := kS (kT i) df kd pm c
noncomputable def kP0 : Value := .str "cpy313.bisect" 187
noncomputable def kP1 : Value := .str "cpy313.colorsys" 230
noncomputable def kP2 : Value := .str "cpy313.doctest" 315
noncomputable def kP3 : Value := .str "law_pg0232_01" 331
noncomputable def kG (P : Params) : Obj := { cls := .type "dict", data := .dict #[kE P "__name__" 165 (.str "law_pg0232_01" 331), kE P "__doc__" 166 (.none), kE P "__package__" 167 (.none), kE P "__loader__" 168 (.builtin "__main__.__loader__#opaque"), kE P "__spec__" 169 (.none), kE P "__annotations__" 170 (.ref 6), kE P "__builtins__" 171 (.ref 4), kE P "__file__" 173 (.str "/claim/cut.py" 172), kE P "__cached__" 174 (.none), kE P (kN 1) 201 (.ref 23), kE P (kN 2) 215 (.ref 32), kE P (kN 3) 229 (.ref 41), kE P "ONE_THIRD" 235 (.float 4599676419421066581 234), kE P "ONE_SIXTH" 239 (.float 4595172819793696085 238), kE P "TWO_THIRD" 243 (.float 4604180019048437077 242), kE P (kN 8) 262 (.ref 48), kE P (kN 9) 273 (.ref 55), kE P (kN 10) 282 (.ref 62), kE P (kN 11) 300 (.ref 69), kE P (kN 12) 314 (.ref 76), kE P "ELLIPSIS_MARKER" 318 (.str "..." 317), kE P (kN 15) 330 (.ref 83), kE P (kN 17) 355 (.ref 90), kE P (kN 18) 361 (.ref 95), kE P (kN 19) 368 (.ref 102), kE P (kN 20) 381 (.ref 109), kE P (kN 21) 387 (.ref 114), kE P (kN 22) 393 (.ref 119)] 28 }
noncomputable def kK : Params → Frag := fun P =>
  (nat_lit 2, { cls := .none, data := .dict #[] }) ::
  (nat_lit 3, kG P) ::
  (nat_lit 6, { cls := .type "dict", data := .dict #[] }) ::
  (nat_lit 15, { cls := .type "tuple", data := .seq #[.int 0 189, .none] }) ::
  (nat_lit 16, { cls := .type "dict", data := .dict #[kE P "key" 190 .none] 1 }) ::
  (nat_lit 22, kC 1 191 2 4 1 17 (.ref 18) (.none) (.ref 19) (.ref 20) (.ref 21) 199) ::
  (nat_lit 23, kF 1 (.ref 15) (.ref 16) kP0 22) ::
  (nat_lit 24, { cls := .type "tuple", data := .seq #[.int 0 202, .none] }) ::
  (nat_lit 25, { cls := .type "dict", data := .dict #[kE P "key" 203 .none] 1 }) ::
  (nat_lit 31, kC 2 204 8 4 1 26 (.ref 27) (.none) (.ref 28) (.ref 29) (.ref 30) 213) ::
  (nat_lit 32, kF 2 (.ref 24) (.ref 25) kP0 31) ::
  (nat_lit 33, { cls := .type "tuple", data := .seq #[.int 0 216, .none] }) ::
  (nat_lit 34, { cls := .type "dict", data := .dict #[kE P "key" 217 .none] 1 }) ::
  (nat_lit 40, kC 3 218 28 4 1 35 (.ref 36) (.none) (.ref 37) (.ref 38) (.ref 39) 227) ::
  (nat_lit 41, kF 3 (.ref 33) (.ref 34) kP0 40) ::
  (nat_lit 47, kC 8 244 52 3 0 42 (.ref 43) (.none) (.ref 44) (.ref 45) (.ref 46) 260) ::
  (nat_lit 48, kF 8 (.none) (.none) kP1 47) ::
  (nat_lit 54, kC 9 263 75 3 0 49 (.ref 50) (.none) (.ref 51) (.ref 52) (.ref 53) 271) ::
  (nat_lit 55, kF 9 (.none) (.none) kP1 54) ::
  (nat_lit 61, kC 10 274 84 3 0 56 (.ref 57) (.none) (.ref 58) (.ref 59) (.ref 60) 280) ::
  (nat_lit 62, kF 10 (.none) (.none) kP1 61) ::
  (nat_lit 68, kC 11 283 93 3 0 63 (.ref 64) (.none) (.ref 65) (.ref 66) (.ref 67) 298) ::
  (nat_lit 69, kF 11 (.none) (.none) kP1 68) ::
  (nat_lit 75, kC 12 301 112 3 0 70 (.ref 71) (.none) (.ref 72) (.ref 73) (.ref 74) 312) ::
  (nat_lit 76, kF 12 (.none) (.none) kP1 75) ::
  (nat_lit 82, kC 15 319 135 2 0 77 (.ref 78) (.none) (.ref 79) (.ref 80) (.ref 81) 328) ::
  (nat_lit 83, kF 15 (.none) (.none) kP2 82) ::
  (nat_lit 89, kC 17 333 164 4 0 84 (.ref 85) (.none) (.ref 86) (.ref 87) (.ref 88) 353) ::
  (nat_lit 90, kF 17 (.none) (.none) kP3 89) ::
  (nat_lit 94, kC 18 356 182 2 0 91 (.ref 92) (.none) (.none) (.none) (.ref 93) 359) ::
  (nat_lit 95, kF 18 (.none) (.none) kP3 94) ::
  (nat_lit 101, kC 19 362 188 1 0 96 (.ref 97) (.none) (.ref 98) (.ref 99) (.ref 100) 366) ::
  (nat_lit 102, kF 19 (.none) (.none) kP3 101) ::
  (nat_lit 108, kC 20 369 190 1 0 103 (.ref 104) (.none) (.ref 105) (.ref 106) (.ref 107) 379) ::
  (nat_lit 109, kF 20 (.none) (.none) kP3 108) ::
  (nat_lit 113, kC 21 382 198 3 0 110 (.ref 111) (.none) (.none) (.none) (.ref 112) 385) ::
  (nat_lit 114, kF 21 (.none) (.none) kP3 113) ::
  (nat_lit 118, kC 22 388 206 1 0 115 (.ref 116) (.none) (.none) (.none) (.ref 117) 391) ::
  (nat_lit 119, kF 22 (.none) (.none) kP3 118) :: []
local macro_rules | `(tactic| k_head) => `(tactic| o_head (kmHook Mine.kK [2, 3, 6, 15, 16, 22, 23, 24, 25, 31, 32, 33, 34, 40, 41, 47, 48, 54, 55, 61, 62, 68, 69, 75, 76, 82, 83, 89, 90, 94, 95, 101, 102, 108, 109, 113, 114, 118, 119] (fun _ => by kernel_rfl) [116]))
set_option maxHeartbeats 8000000 in
open_top lawTop for PySem.Challenge.rw_pg0232_01
end Mine

namespace Mine
section
/-- the pattern with 52 as the wildcard, on a text -/
noncomputable def WM : List Nat → List Nat → Prop
  | [], t => t = []
  | c :: p, t => if c = 52 then ∃ k, k ≤ t.length ∧ WM p (t.drop k) else ∃ r, t = c :: r ∧ WM p r
theorem WM.star {p t : List Nat} : WM (52 :: p) t ↔ ∃ k, k ≤ t.length ∧ WM p (t.drop k) := by simp [WM]
theorem WM.char {c : Nat} {p t : List Nat} (h : c ≠ 52) : WM (c :: p) t ↔ ∃ r, t = c :: r ∧ WM p r := by simp [WM, h]
/-- a wildcard swallows more -/
theorem WM.star_drop {p t : List Nat} {k : Nat} (hk : k ≤ t.length) (h : WM (52 :: p) (t.drop k)) : WM (52 :: p) t := by
  rw [WM.star] at h ⊢
  obtain ⟨j, hj, h⟩ := h
  rw [List.length_drop] at hj
  exact ⟨k + j, by (walk_at "my om"), by rw [List.drop_drop] at h; exact h⟩
/-- one step of _law_ends -/
noncomputable def stepE (signs : List Nat) (spots : List Nat) (c : Nat) : List Nat :=
  if c = 52 then (match spots with | [] => [] | s :: _ => (List.range (signs.length + 1)).filter fun p => decide (s ≤ p))
  else (spots.filter fun p => decide (signs[p]? = some c)).map (· + 1)
noncomputable def endsOf (signs pat : List Nat) (m : Nat) : List Nat := pat.foldl (stepE signs) [m]
theorem sorted_head {s : Nat} {l : List Nat} (h : (s :: l).Pairwise (· < ·)) : ∀ p ∈ s :: l, s ≤ p := fun p hp => by
  rcases List.mem_cons.mp hp with rfl | hp
  · exact Nat.le_refl _
  · exact Nat.le_of_lt ((List.pairwise_cons.mp h).1 p hp)
theorem stepE_sorted {signs spots : List Nat} {c : Nat} (h : spots.Pairwise (· < ·)) (hb : ∀ p ∈ spots, p ≤ signs.length) : (stepE signs spots c).Pairwise (· < ·) ∧ ∀ p ∈ stepE signs spots c, p ≤ signs.length := by
  unfold stepE
  split
  · cases spots with
    | nil => exact ⟨.nil, fun p hp => by cases hp⟩
    | cons s l =>
      refine ⟨List.pairwise_lt_range.filter _, fun p hp => ?_⟩
      have := List.mem_range.mp (List.mem_filter.mp hp).1
      (walk_at "my om")
  · refine ⟨?_, fun p hp => ?_⟩
    · rw [List.pairwise_map]
      exact (h.filter _).imp fun q => by (walk_at "my om")
    · obtain ⟨q, hq, rfl⟩ := List.mem_map.mp hp
      have := of_decide_eq_true (List.mem_filter.mp hq).2
      have := (List.getElem?_eq_some_iff.mp this).1
      (walk_at "my om")
theorem ends_iff (signs : List Nat) (e : Nat) (he : e ≤ signs.length) : ∀ (pat spots : List Nat), spots.Pairwise (· < ·) → (∀ p ∈ spots, p ≤ signs.length) →
    (e ∈ pat.foldl (stepE signs) spots ↔ ∃ s ∈ spots, s ≤ e ∧ WM pat ((signs.take e).drop s))
  | [], spots, _, _ => by
    simp only [List.foldl_nil, WM]
    constructor
    · intro h; exact ⟨e, h, Nat.le_refl _, by simp⟩
    · rintro ⟨s, hs, hse, h⟩
      have : (signs.take e).length ≤ s := List.drop_eq_nil_iff.mp h
      rw [List.length_take, Nat.min_eq_left he] at this
      rwa [show e = s by (walk_at "my om")]
  | c :: pat, spots, hs, hb => by
    obtain ⟨h1, h2⟩ := stepE_sorted (c := c) hs hb
    rw [List.foldl_cons, ends_iff signs e he pat _ h1 h2]
    have hl : (signs.take e).length = e := by rw [List.length_take, Nat.min_eq_left he]
    by_cases hc : c = 52
    · subst hc
      simp only [WM.star]
      unfold stepE
      rw [if_pos rfl]
      cases spots with
      | nil => simp
      | cons s l =>
        have hmin := sorted_head hs
        constructor
        · rintro ⟨p, hp, hpe, h⟩
          have hsp := of_decide_eq_true (List.mem_filter.mp hp).2
          refine ⟨s, List.mem_cons_self, by (walk_at "my om"), p - s, by rw [List.length_drop, hl]; (walk_at "my om"), ?_⟩
          rw [List.drop_drop, show s + (p - s) = p by (walk_at "my om")]; exact h
        · rintro ⟨q, hq, hqe, k, hk, h⟩
          rw [List.length_drop, hl] at hk
          have := hmin q hq
          refine ⟨q + k, List.mem_filter.mpr ⟨List.mem_range.mpr (by (walk_at "my om")), decide_eq_true (by (walk_at "my om"))⟩, by (walk_at "my om"), ?_⟩
          rw [List.drop_drop] at h; exact h
    · simp only [WM.char hc]
      unfold stepE
      rw [if_neg hc]
      constructor
      · rintro ⟨p, hp, hpe, h⟩
        obtain ⟨q, hq, rfl⟩ := List.mem_map.mp hp
        obtain ⟨hq1, hq2⟩ := List.mem_filter.mp hq
        have hq3 := of_decide_eq_true hq2
        refine ⟨q, hq1, by (walk_at "my om"), (signs.take e).drop (q + 1), ?_, h⟩
        rw [List.drop_eq_getElem_cons (by (walk_at "my om"))]
        congr 1
        have := (List.getElem?_eq_some_iff.mp hq3)
        obtain ⟨a, b⟩ := this
        simpa using b
      · rintro ⟨q, hq, hqe, r, hr, h⟩
        have hlt : q < e := by
          rcases Nat.lt_or_ge q e with z | z
          · exact z
          · rw [List.drop_eq_nil_of_le (by (walk_at "my om"))] at hr; cases hr
        rw [List.drop_eq_getElem_cons (by (walk_at "my om"))] at hr
        injection hr with hr1 hr2
        refine ⟨q + 1, List.mem_map.mpr ⟨q, List.mem_filter.mpr ⟨hq, ?_⟩, rfl⟩, hlt, by rw [hr2]; exact h⟩
        refine decide_eq_true ?_
        rw [List.getElem?_eq_some_iff]
        exact ⟨by (walk_at "my om"), by simpa using hr1⟩
end
end Mine

namespace Mine
section
theorem ends_one (signs pat : List Nat) (m e : Nat) (hm : m ≤ signs.length) (he : e ≤ signs.length) : e ∈ endsOf signs pat m ↔ m ≤ e ∧ WM pat ((signs.take e).drop m) := by
  unfold endsOf
  rw [ends_iff signs e he pat [m] (List.pairwise_singleton ..) (fun p hp => by rw [List.mem_singleton.mp hp]; exact hm)]
  simp
theorem ends_le (signs pat : List Nat) (m : Nat) (hm : m ≤ signs.length) : ∀ e ∈ endsOf signs pat m, e ≤ signs.length := by
  have main : ∀ (pat spots : List Nat), spots.Pairwise (· < ·) → (∀ p ∈ spots, p ≤ signs.length) → ∀ e ∈ pat.foldl (stepE signs) spots, e ≤ signs.length := by
    intro pat
    induction pat with
    | nil => intro spots _ hb e he; exact hb e he
    | cons c pat ih =>
      intro spots hs hb e he
      obtain ⟨h1, h2⟩ := stepE_sorted (c := c) hs hb
      exact ih _ h1 h2 e he
  exact main pat [m] (List.pairwise_singleton ..) (fun p hp => by rw [List.mem_singleton.mp hp]; exact hm)
theorem WM.snoc_star : ∀ {p t : List Nat}, WM (p ++ [52]) t ↔ ∃ k, k ≤ t.length ∧ WM p (t.take k)
  | [], t => by
    rw [List.nil_append, WM.star]
    constructor
    · rintro ⟨k, hk, h⟩; exact ⟨0, Nat.zero_le _, rfl⟩
    · rintro ⟨k, hk, h⟩; exact ⟨t.length, Nat.le_refl _, by simp [WM]⟩
  | c :: p, t => by
    rw [List.cons_append]
    by_cases hc : c = 52
    · subst hc
      simp only [WM.star]
      constructor
      · rintro ⟨k, hk, h⟩
        obtain ⟨j, hj, h⟩ := WM.snoc_star.mp h
        rw [List.length_drop] at hj
        refine ⟨k + j, by (walk_at "my om"), k, by rw [List.length_take]; (walk_at "my om"), ?_⟩
        rw [List.drop_take]
        rw [show k + j - k = j by (walk_at "my om")]; exact h
      · rintro ⟨k, hk, j, hj, h⟩
        rw [List.length_take] at hj
        refine ⟨j, by (walk_at "my om"), WM.snoc_star.mpr ⟨k - j, by rw [List.length_drop]; (walk_at "my om"), ?_⟩⟩
        rw [List.drop_take] at h; exact h
    · simp only [WM.char hc]
      constructor
      · rintro ⟨r, rfl, h⟩
        obtain ⟨k, hk, h⟩ := WM.snoc_star.mp h
        exact ⟨k + 1, by simpa using hk, r.take k, rfl, h⟩
      · rintro ⟨k, hk, r, hr, h⟩
        cases t with
        | nil => simp at hr
        | cons x t =>
          cases k with
          | zero => simp at hr
          | succ k =>
            rw [List.take_succ_cons] at hr
            injection hr with h1 h2
            subst h1
            exact ⟨t, rfl, WM.snoc_star.mpr ⟨k, by simpa using hk, by rw [h2]; exact h⟩⟩
/-- some end of m at e or before -/
theorem near_iff (signs pat : List Nat) (m e : Nat) (hm : m ≤ e) (he : e ≤ signs.length) : WM (pat ++ [52]) ((signs.take e).drop m) ↔ ∃ x ∈ endsOf signs pat m, x ≤ e := by
  rw [WM.snoc_star]
  have hl : ((signs.take e).drop m).length = e - m := by rw [List.length_drop, List.length_take, Nat.min_eq_left he]
  rw [hl]
  constructor
  · rintro ⟨k, hk, h⟩
    refine ⟨m + k, (ends_one signs pat m (m + k) (by (walk_at "my om")) (by (walk_at "my om"))).mpr ⟨by (walk_at "my om"), ?_⟩, by (walk_at "my om")⟩
    rw [List.take_drop, List.take_take, Nat.min_eq_left (by (walk_at "my om"))] at h
    exact h
  · rintro ⟨x, hx, hxe⟩
    obtain ⟨h1, h2⟩ := (ends_one signs pat m x (by (walk_at "my om")) (by (walk_at "my om"))).mp hx
    refine ⟨x - m, by (walk_at "my om"), ?_⟩
    rw [List.take_drop, List.take_take, Nat.min_eq_left (by (walk_at "my om")), show m + (x - m) = x by (walk_at "my om")]
    exact h2
/-- e is an end of m or of a later spot -/
theorem far_iff (signs pat : List Nat) (m e : Nat) (hm : m ≤ e) (he : e ≤ signs.length) : WM (52 :: pat) ((signs.take e).drop m) ↔ ∃ x, m ≤ x ∧ x ≤ e ∧ e ∈ endsOf signs pat x := by
  rw [WM.star]
  have hl : ((signs.take e).drop m).length = e - m := by rw [List.length_drop, List.length_take, Nat.min_eq_left he]
  rw [hl]
  constructor
  · rintro ⟨k, hk, h⟩
    rw [List.drop_drop] at h
    exact ⟨m + k, by (walk_at "my om"), by (walk_at "my om"), (ends_one signs pat (m + k) e (by (walk_at "my om")) he).mpr ⟨by (walk_at "my om"), h⟩⟩
  · rintro ⟨x, h1, h2, h3⟩
    have := ((ends_one signs pat x e (by (walk_at "my om")) he).mp h3).2
    refine ⟨x - m, by (walk_at "my om"), ?_⟩
    rw [List.drop_drop, show m + (x - m) = x by (walk_at "my om")]; exact this
end
end Mine

namespace Mine
section
noncomputable def No4 (w : List Nat) : Prop := ∀ c ∈ w, c ≠ 52
theorem WM.pre {w : List Nat} : ∀ {r t : List Nat}, No4 w → (WM (w ++ r) t ↔ ∃ u, t = w ++ u ∧ WM r u) := by
  induction w with
  | nil => intro r t _; simp
  | cons c w ih =>
    intro r t hw
    rw [List.cons_append, WM.char (hw c List.mem_cons_self)]
    have hw' : No4 w := fun x hx => hw x (List.mem_cons_of_mem _ hx)
    constructor
    · rintro ⟨s, rfl, h⟩
      obtain ⟨u, rfl, h'⟩ := (ih hw').mp h
      exact ⟨u, rfl, h'⟩
    · rintro ⟨u, rfl, h⟩
      exact ⟨w ++ u, rfl, (ih hw').mpr ⟨u, rfl, h⟩⟩
theorem WM.post {w : List Nat} (hw : No4 w) : ∀ {r t : List Nat}, WM (r ++ w) t ↔ ∃ u, t = u ++ w ∧ WM r u := by
  intro r
  induction r with
  | nil =>
    intro t
    rw [List.nil_append]
    have := WM.pre (w := w) (r := []) (t := t) hw
    rw [List.append_nil] at this
    rw [this]
    constructor
    · rintro ⟨u, rfl, h⟩
      have : u = [] := h
      subst this
      exact ⟨[], by simp, rfl⟩
    · rintro ⟨u, rfl, h⟩
      have : u = [] := h
      subst this
      exact ⟨[], by simp, rfl⟩
  | cons c r ih =>
    intro t
    rw [List.cons_append]
    by_cases hc : c = 52
    · subst hc
      simp only [WM.star]
      constructor
      · rintro ⟨k, hk, h⟩
        obtain ⟨u, hu, h'⟩ := ih.mp h
        clear h
        have h := h'
        refine ⟨t.take k ++ u, ?_, k, by rw [List.length_append, List.length_take]; (walk_at "my om"), ?_⟩
        · rw [List.append_assoc, ← hu, List.take_append_drop]
        · rw [List.drop_append_of_le_length (by rw [List.length_take]; (walk_at "my om")), List.drop_take, Nat.sub_self, List.take_zero, List.nil_append]; exact h
      · rintro ⟨u, rfl, k, hk, h⟩
        exact ⟨k, by rw [List.length_append]; (walk_at "my om"), ih.mpr ⟨u.drop k, List.drop_append_of_le_length hk, h⟩⟩
    · simp only [WM.char hc]
      constructor
      · rintro ⟨s, rfl, h⟩
        obtain ⟨u, rfl, h'⟩ := ih.mp h
        exact ⟨c :: u, rfl, u, rfl, h'⟩
      · rintro ⟨u, rfl, s, rfl, h⟩
        exact ⟨s ++ w, rfl, ih.mpr ⟨s, rfl, h⟩⟩
/-- the pieces between two wildcards each -/
noncomputable def starP : List (List Nat) → List Nat
  | [] => [52]
  | w :: ws => 52 :: (w ++ starP ws)
theorem starP_head : ∀ ws, ∃ r, starP ws = 52 :: r
  | [] => ⟨[], rfl⟩
  | w :: ws => ⟨_, rfl⟩
/-- i is the leftmost place of w in u -/
noncomputable def IsFind (u w : List Nat) (i : Nat) : Prop := w.isPrefixOf (u.drop i) = true ∧ i ≤ u.length ∧ ∀ j, j < i → ¬ w.isPrefixOf (u.drop j) = true
inductive Greedy : List Nat → List (List Nat) → Prop
  | nil {u : List Nat} : Greedy u []
  | cons {u w : List Nat} {ws : List (List Nat)} {i : Nat} : IsFind u w i → Greedy (u.drop (i + w.length)) ws → Greedy u (w :: ws)
theorem greedy_sound {ws : List (List Nat)} : ∀ {u : List Nat}, (∀ w ∈ ws, No4 w) → Greedy u ws → WM (starP ws) u := by
  induction ws with
  | nil => intro u _ _; exact WM.star.mpr ⟨u.length, Nat.le_refl _, by simp [WM]⟩
  | cons w ws ih =>
    intro u hw g
    cases g with
    | @cons _ _ _ i hf g =>
      obtain ⟨h1, h2, _⟩ := hf
      obtain ⟨r, hr⟩ := List.isPrefixOf_iff_prefix.mp h1
      refine WM.star.mpr ⟨i, h2, (WM.pre (hw w List.mem_cons_self)).mpr ⟨r, hr.symm, ?_⟩⟩
      have := ih (fun x hx => hw x (List.mem_cons_of_mem _ hx)) g
      rw [← List.drop_drop, ← hr, List.drop_left] at this
      exact this
theorem greedy_complete {ws : List (List Nat)} : ∀ {u : List Nat}, (∀ w ∈ ws, No4 w) → WM (starP ws) u → Greedy u ws := by
  induction ws with
  | nil => intro u _ _; exact .nil
  | cons w ws ih =>
    intro u hw h
    obtain ⟨k, hk, h1⟩ := WM.star.mp h
    obtain ⟨r, hr, h2⟩ := (WM.pre (hw w List.mem_cons_self)).mp h1
    clear h1 h
    have h := h2
    clear h2
    have ex : ∃ i, w.isPrefixOf (u.drop i) = true := ⟨k, List.isPrefixOf_iff_prefix.mpr ⟨r, hr.symm⟩⟩
    -- the leftmost
    have : ∃ i, i ≤ k ∧ w.isPrefixOf (u.drop i) = true ∧ ∀ j, j < i → ¬ w.isPrefixOf (u.drop j) = true := by
      have hk' : w.isPrefixOf (u.drop k) = true := List.isPrefixOf_iff_prefix.mpr ⟨r, hr.symm⟩
      clear ex hr h hk
      induction k using Nat.strongRecOn with
      | _ k ihk =>
        by_cases q : ∃ j, j < k ∧ w.isPrefixOf (u.drop j) = true
        · obtain ⟨j, hj, hp⟩ := q
          obtain ⟨i, h1, h2, h3⟩ := ihk j hj hp
          exact ⟨i, by (walk_at "my om"), h2, h3⟩
        · exact ⟨k, Nat.le_refl _, hk', fun j hj z => q ⟨j, hj, z⟩⟩
    obtain ⟨i, hik, hp, hmin⟩ := this
    refine .cons ⟨hp, by (walk_at "my om"), hmin⟩ (ih (fun x hx => hw x (List.mem_cons_of_mem _ hx)) ?_)
    -- u.drop (i + |w|) holds u.drop (k + |w|) at its end
    have hd : u.drop (k + w.length) = r := by rw [← List.drop_drop, hr, List.drop_left]
    rw [← hd] at h
    obtain ⟨q, hq⟩ := starP_head ws
    rw [hq] at h ⊢
    have hlen : k + w.length ≤ u.length := by
      have := congrArg List.length hr
      rw [List.length_drop, List.length_append] at this
      (walk_at "my om")
    refine WM.star_drop (k := k - i) (by rw [List.length_drop]; (walk_at "my om")) ?_
    rw [List.drop_drop, show i + w.length + (k - i) = k + w.length by (walk_at "my om")]
    exact h
theorem greedy_iff {ws : List (List Nat)} {u : List Nat} (hw : ∀ w ∈ ws, No4 w) : Greedy u ws ↔ WM (starP ws) u := ⟨greedy_sound hw, greedy_complete hw⟩
end
end Mine

namespace Mine
noncomputable abbrev PP : Program := PySem.Challenge.rw_pg0232_01.row.prog

inductive PV where
  | none | bool (b : Bool) | int (i : Int) | float (x : UInt64) | str (s : Str) | list (xs : List PV) | tuple (xs : List PV)
  | obj (a : Addr) | old (hb : Heap) (x : PV) | fresh (hb : Heap) (x : PV) | lst (a : Addr) (xs : List PV)

/-- a heap at which a list or a tuple stands still although other things may have turned -/
noncomputable def Still (h h' : Heap) : Prop := ∀ b o xs n, h.get? b = some o → o.data = .seq xs n → h'.get? b = some o
theorem Still.refl (h : Heap) : Still h h := fun _ _ _ _ e _ => e
theorem Still.trans {a b c : Heap} (x : Still a b) (y : Still b c) : Still a c := fun i o xs n e k => y i o xs n (x i o xs n e k) k

noncomputable def Ext (h h' : Heap) : Prop := ∀ b o, h.get? b = some o → h'.get? b = some o
theorem Ext.refl (h : Heap) : Ext h h := fun _ _ e => e
theorem cmin (a b : Nat) : ((min a b : Nat) : Int) = min (a : Int) (b : Int) := by
  rcases Nat.le_total a b with h | h
  · rw [Nat.min_eq_left h, Int.min_eq_left (Int.ofNat_le.mpr h)]
  · rw [Nat.min_eq_right h, Int.min_eq_right (Int.ofNat_le.mpr h)]
theorem cmax (a b : Nat) : ((max a b : Nat) : Int) = max (a : Int) (b : Int) := by
  rcases Nat.le_total a b with h | h
  · rw [Nat.max_eq_right h, Int.max_eq_right (Int.ofNat_le.mpr h)]
  · rw [Nat.max_eq_left h, Int.max_eq_left (Int.ofNat_le.mpr h)]
theorem mx0 (k n : Nat) : max 0 (min (k : Int) (n : Int)) = ((min k n : Nat) : Int) := by
  rw [← cmin]; exact Int.max_eq_right (Int.natCast_nonneg _)
theorem m3 (k : Int) : k % 3 < 2 ^ 63 := by omega/-k-/
theorem nab {a b : Int} (h1 : 0 ≤ a) (h2 : a < 64) (h : b.natAbs < 100) : (a * 9 + b).natAbs < 2 ^ 64 := by omega/-k-/
theorem neg1 (n : Nat) : (-1 + (n : Int)).toNat = n - 1 := by rw [Int.add_comm]; exact Int.toNat_sub n 1
theorem Ext.trans {a b c : Heap} (x : Ext a b) (y : Ext b c) : Ext a c := fun i o e => y i o (x i o e)
theorem Ext.push (h : Heap) (o : Obj) : Ext h (h.push o) := fun _ _ e => Heap.get?_push_of_some _ e

mutual
noncomputable def Rep (h : Heap) : PV → Value → Prop
  | .none, v => v = .none
  | .bool b, v => v = .bool b
  | .int i, v => ∃ t, v = .int i t
  | .float x, v => ∃ t, v = .float x t
  | .str x, v => ∃ t, v = .str x t
  | .list xs, v => ∃ a vs, v = .ref a ∧ h.IsList a vs.toArray ∧ Reps h xs vs
  | .tuple xs, v => ∃ a vs, v = .ref a ∧ h.IsTuple a vs.toArray ∧ Reps h xs vs
  | .obj a, v => v = .ref a
  | .old hb x, v => Still hb h ∧ Rep hb x v
  | .fresh hb x, v => (∃ a items n, v = .ref a ∧ hb.get? a = Option.none ∧ h.get? a = some { cls := .type "list", data := .seq items n }) ∧ Rep h x v
  | .lst a xs, v => v = .ref a ∧ ∃ vs n, h.get? a = some { cls := .type "list", data := .seq vs.toArray n } ∧ Reps h xs vs
noncomputable def Reps (h : Heap) : List PV → List Value → Prop
  | [], vs => vs = []
  | x :: xs, vs => ∃ v r, vs = v :: r ∧ Rep h x v ∧ Reps h xs r
end

theorem isList_ext {h h' : Heap} {a : Addr} {xs : Array Value} (x : h.IsList a xs) (k : Ext h h') : h'.IsList a xs :=
  let ⟨o, e, r⟩ := x; ⟨o, k _ _ e, r⟩
theorem isTuple_ext {h h' : Heap} {a : Addr} {xs : Array Value} (x : h.IsTuple a xs) (k : Ext h h') : h'.IsTuple a xs :=
  let ⟨o, e, r⟩ := x; ⟨o, k _ _ e, r⟩

mutual
theorem Rep.mono {h h' : Heap} (k : Ext h h') : ∀ (x : PV) (v : Value), Rep h x v → Rep h' x v
  | .none, v, e => by simpa only [Rep] using e
  | .bool b, v, e => by simpa only [Rep] using e
  | .int i, v, e => by simpa only [Rep] using e
  | .float i, v, e => by simpa only [Rep] using e
  | .str i, v, e => by simpa only [Rep] using e
  | .list xs, v, e => by
    simp only [Rep] at e ⊢
    obtain ⟨a, vs, e1, e2, e3⟩ := e
    exact ⟨a, vs, e1, isList_ext e2 k, Reps.mono k xs vs e3⟩
  | .tuple xs, v, e => by
    simp only [Rep] at e ⊢
    obtain ⟨a, vs, e1, e2, e3⟩ := e
    exact ⟨a, vs, e1, isTuple_ext e2 k, Reps.mono k xs vs e3⟩
  | .obj a, v, e => by simpa only [Rep] using e
  | .old hb x, v, e => by
    simp only [Rep] at e ⊢
    exact ⟨e.1.trans (fun b o _ _ q _ => k b o q), e.2⟩
  | .fresh b x, v, e => by
    simp only [Rep] at e ⊢
    obtain ⟨⟨a, items, n, e1, e2, e3⟩, e4⟩ := e
    exact ⟨⟨a, items, n, e1, e2, k _ _ e3⟩, Rep.mono k x v e4⟩
  | .lst a xs, v, e => by
    simp only [Rep] at e ⊢
    obtain ⟨e1, vs, n, e2, e3⟩ := e
    exact ⟨e1, vs, n, k _ _ e2, Reps.mono k xs vs e3⟩
theorem Reps.mono {h h' : Heap} (k : Ext h h') : ∀ (xs : List PV) (vs : List Value), Reps h xs vs → Reps h' xs vs
  | [], vs, e => by simpa only [Reps] using e
  | x :: xs, vs, e => by
    simp only [Reps] at e ⊢
    obtain ⟨v, r, e1, e2, e3⟩ := e
    exact ⟨v, r, e1, Rep.mono k x v e2, Reps.mono k xs r e3⟩
end

theorem Ext.still {h h' : Heap} (k : Ext h h') : Still h h' := fun b o _ _ e _ => k b o e
theorem isList_still {h h' : Heap} {a : Addr} {xs : Array Value} (x : h.IsList a xs) (k : Still h h') : h'.IsList a xs :=
  let ⟨o, e, c, n, r⟩ := x; ⟨o, k _ _ _ _ e r, c, n, r⟩
theorem isTuple_still {h h' : Heap} {a : Addr} {xs : Array Value} (x : h.IsTuple a xs) (k : Still h h') : h'.IsTuple a xs :=
  let ⟨o, e, c, n, r⟩ := x; ⟨o, k _ _ _ _ e r, c, n, r⟩
mutual
theorem Rep.still {h h' : Heap} (k : Still h h') : ∀ (x : PV) (v : Value), Rep h x v → Rep h' x v
  | .none, v, e => by simpa only [Rep] using e
  | .bool b, v, e => by simpa only [Rep] using e
  | .int i, v, e => by simpa only [Rep] using e
  | .float i, v, e => by simpa only [Rep] using e
  | .str i, v, e => by simpa only [Rep] using e
  | .list xs, v, e => by
    simp only [Rep] at e ⊢
    obtain ⟨a, vs, e1, e2, e3⟩ := e
    exact ⟨a, vs, e1, isList_still e2 k, Reps.still k xs vs e3⟩
  | .tuple xs, v, e => by
    simp only [Rep] at e ⊢
    obtain ⟨a, vs, e1, e2, e3⟩ := e
    exact ⟨a, vs, e1, isTuple_still e2 k, Reps.still k xs vs e3⟩
  | .obj a, v, e => by simpa only [Rep] using e
  | .old hb x, v, e => by
    simp only [Rep] at e ⊢
    exact ⟨e.1.trans k, e.2⟩
  | .fresh b x, v, e => by
    simp only [Rep] at e ⊢
    obtain ⟨⟨a, items, n, e1, e2, e3⟩, e4⟩ := e
    exact ⟨⟨a, items, n, e1, e2, k _ _ _ _ e3 rfl⟩, Rep.still k x v e4⟩
  | .lst a xs, v, e => by
    simp only [Rep] at e ⊢
    obtain ⟨e1, vs, n, e2, e3⟩ := e
    exact ⟨e1, vs, n, k _ _ _ _ e2 rfl, Reps.still k xs vs e3⟩
theorem Reps.still {h h' : Heap} (k : Still h h') : ∀ (xs : List PV) (vs : List Value), Reps h xs vs → Reps h' xs vs
  | [], vs, e => by simpa only [Reps] using e
  | x :: xs, vs, e => by
    simp only [Reps] at e ⊢
    obtain ⟨v, r, e1, e2, e3⟩ := e
    exact ⟨v, r, e1, Rep.still k x v e2, Reps.still k xs r e3⟩
end

theorem Reps.length {h : Heap} : ∀ {xs : List PV} {vs : List Value}, Reps h xs vs → vs.length = xs.length
  | [], vs, e => by simp only [Reps] at e; subst e; rfl
  | x :: xs, vs, e => by
    simp only [Reps] at e
    obtain ⟨v, r, rfl, _, e3⟩ := e
    simp only [List.length_cons, Reps.length e3]
theorem Reps.get {h : Heap} : ∀ {xs : List PV} {vs : List Value}, Reps h xs vs → ∀ (i : Nat) (x : PV), xs[i]? = some x → ∃ v, vs[i]? = some v ∧ Rep h x v
  | [], vs, _, i, x, hx => by simp at hx
  | y :: xs, vs, e, i, x, hx => by
    simp only [Reps] at e
    obtain ⟨v, r, rfl, e2, e3⟩ := e
    cases i with
    | zero => simp only [List.getElem?_cons_zero, Option.some.injEq] at hx ⊢; subst hx; exact ⟨v, rfl, e2⟩
    | succ i => simp only [List.getElem?_cons_succ] at hx ⊢; exact Reps.get e3 i x hx
theorem Reps.of_get {h : Heap} : ∀ {xs : List PV} {vs : List Value}, vs.length = xs.length → (∀ (i : Nat) (x : PV) (v : Value), xs[i]? = some x → vs[i]? = some v → Rep h x v) → Reps h xs vs
  | [], vs, e, _ => by simp only [Reps]; exact List.eq_nil_of_length_eq_zero e
  | y :: xs, [], e, _ => by simp at e
  | y :: xs, v :: vs, e, k => by
    simp only [Reps]
    refine ⟨v, vs, rfl, k 0 y v rfl rfl, Reps.of_get (by simpa using e) fun i x u h1 h2 => k (i + 1) x u ?_ ?_⟩
    · simpa using h1
    · simpa using h2
theorem Reps.append {h : Heap} : ∀ {xs : List PV} {vs : List Value} {ys : List PV} {us : List Value}, Reps h xs vs → Reps h ys us → Reps h (xs ++ ys) (vs ++ us)
  | [], vs, ys, us, e, f => by simp only [Reps] at e; subst e; exact f
  | x :: xs, vs, ys, us, e, f => by
    simp only [Reps] at e
    obtain ⟨v, r, rfl, e2, e3⟩ := e
    simp only [List.cons_append, Reps]
    exact ⟨v, r ++ us, rfl, e2, Reps.append e3 f⟩
theorem Reps.single {h : Heap} {x : PV} {v : Value} (e : Rep h x v) : Reps h [x] [v] := by simp only [Reps]; exact ⟨v, [], rfl, e, rfl⟩
theorem Reps.cons {h : Heap} {x : PV} {v : Value} {xs : List PV} {vs : List Value} (e : Rep h x v) (f : Reps h xs vs) : Reps h (x :: xs) (v :: vs) := by simp only [Reps]; exact ⟨v, vs, rfl, e, f⟩
theorem Reps.nil {h : Heap} : Reps h [] [] := by simp only [Reps]
theorem Reps.take {h : Heap} (n : Nat) {xs : List PV} {vs : List Value} (e : Reps h xs vs) : Reps h (xs.take n) (vs.take n) := by
  refine Reps.of_get (by simp [e.length]) fun i x v h1 h2 => ?_
  rw [List.getElem?_take] at h1 h2
  split at h1
  · rename_i hi
    rw [if_pos hi] at h2
    obtain ⟨u, e1, e2⟩ := e.get i x h1
    rw [h2] at e1; cases e1; exact e2
  · cases h1
theorem Reps.drop {h : Heap} (n : Nat) {xs : List PV} {vs : List Value} (e : Reps h xs vs) : Reps h (xs.drop n) (vs.drop n) := by
  refine Reps.of_get (by simp [e.length]) fun i x v h1 h2 => ?_
  rw [List.getElem?_drop] at h1 h2
  obtain ⟨u, e1, e2⟩ := e.get _ x h1
  rw [h2] at e1; cases e1; exact e2

theorem rep_obj {h : Heap} {a : Addr} {v : Value} (e : Rep h (.obj a) v) : v = .ref a := by simpa only [Rep] using e
theorem rep_int {h : Heap} {i : Int} {v : Value} (e : Rep h (.int i) v) : ∃ t, v = .int i t := by simpa only [Rep] using e
theorem rep_float {h : Heap} {i : UInt64} {v : Value} (e : Rep h (.float i) v) : ∃ t, v = .float i t := by simpa only [Rep] using e
theorem rep_str {h : Heap} {i : Str} {v : Value} (e : Rep h (.str i) v) : ∃ t, v = .str i t := by simpa only [Rep] using e
theorem rep_bool {h : Heap} {i : Bool} {v : Value} (e : Rep h (.bool i) v) : v = .bool i := by simpa only [Rep] using e
theorem rep_none {h : Heap} {v : Value} (e : Rep h .none v) : v = .none := by simpa only [Rep] using e
theorem rep_list {h : Heap} {xs : List PV} {v : Value} (e : Rep h (.list xs) v) : ∃ a vs, v = .ref a ∧ h.IsList a vs.toArray ∧ Reps h xs vs := by simpa only [Rep] using e
theorem rep_tuple {h : Heap} {xs : List PV} {v : Value} (e : Rep h (.tuple xs) v) : ∃ a vs, v = .ref a ∧ h.IsTuple a vs.toArray ∧ Reps h xs vs := by simpa only [Rep] using e
theorem Rep.mkInt {h : Heap} (i : Int) (t : Tok) : Rep h (.int i) (.int i t) := by simp only [Rep]; exact ⟨t, rfl⟩
theorem Rep.mkFloat {h : Heap} (i : UInt64) (t : Tok) : Rep h (.float i) (.float i t) := by simp only [Rep]; exact ⟨t, rfl⟩
theorem Rep.mkStr {h : Heap} (i : Str) (t : Tok) : Rep h (.str i) (.str i t) := by simp only [Rep]; exact ⟨t, rfl⟩
theorem Rep.mkBool {h : Heap} (i : Bool) : Rep h (.bool i) (.bool i) := by simp only [Rep]
theorem Rep.mkObj {h : Heap} (a : Addr) : Rep h (.obj a) (.ref a) := by simp only [Rep]
theorem Rep.mkNone {h : Heap} : Rep h .none .none := by simp only [Rep]
theorem Rep.mkList {h : Heap} {xs : List PV} {a : Addr} {vs : List Value} (l : h.IsList a vs.toArray) (r : Reps h xs vs) : Rep h (.list xs) (.ref a) := by simp only [Rep]; exact ⟨a, vs, rfl, l, r⟩
theorem Rep.mkTuple {h : Heap} {xs : List PV} {a : Addr} {vs : List Value} (l : h.IsTuple a vs.toArray) (r : Reps h xs vs) : Rep h (.tuple xs) (.ref a) := by simp only [Rep]; exact ⟨a, vs, rfl, l, r⟩

noncomputable def Grows (s s' : Shared) : Prop := ∃ h tk, s' = { s with heap := h, toks := tk } ∧ Ext s.heap h
theorem Grows.refl (s : Shared) : Grows s s := ⟨s.heap, s.toks, rfl, .refl _⟩
theorem Grows.trans {a b c : Shared} (x : Grows a b) (y : Grows b c) : Grows a c := by
  obtain ⟨h, tk, rfl, e⟩ := x
  obtain ⟨h', tk', rfl, e'⟩ := y
  exact ⟨h', tk', rfl, e.trans e'⟩
theorem Grows.ext {a b : Shared} (x : Grows a b) : Ext a.heap b.heap := by
  obtain ⟨h, tk, rfl, e⟩ := x
  exact e
theorem Grows.tok (s : Shared) (tk : Nat) : Grows s { s with toks := tk } := ⟨s.heap, tk, rfl, .refl _⟩
theorem Grows.heap {s : Shared} {h : Heap} (e : Ext s.heap h) (tk : Nat) : Grows s { s with heap := h, toks := tk } := ⟨h, tk, rfl, e⟩
theorem Grows.heap' {s : Shared} {h : Heap} (e : Ext s.heap h) : Grows s { s with heap := h } := ⟨h, s.toks, rfl, e⟩

section
variable {w : World} {A : Around}

noncomputable def Ev {α : Type} (w : World) (A : Around) (t : Sem α) (h : Heap) (P : α → Heap → Prop) : Prop :=
  ∀ s : Shared, Ext h s.heap → wpAny (model PP w) A t (fun v s' => Grows s s' ∧ P v s'.heap) (fun _ _ => False) s

theorem Ev.at {α : Type} {t : Sem α} {h h' : Heap} {P : α → Heap → Prop} (x : Ev w A t h P) (k : Ext h h') : Ev w A t h' P := fun s e => x s (k.trans e)
theorem Ev.imp {α : Type} {t : Sem α} {h : Heap} {P P' : α → Heap → Prop} (x : Ev w A t h P) (k : ∀ v h', Ext h h' → P v h' → P' v h') : Ev w A t h P' :=
  fun s e => wpAny_mono (x s e) (fun v s' ⟨g, p⟩ => ⟨g, k v _ (e.trans g.ext) p⟩) fun _ _ x => x
theorem Ev.bind {α β : Type} {m : Sem α} {f : α → Sem β} {h : Heap} {P : α → Heap → Prop} {P' : β → Heap → Prop} (x : Ev w A m h P) (k : ∀ v h', Ext h h' → P v h' → Ev w A (f v) h' P') : Ev w A (m >>= f) h P' :=
  fun s e => wpAny_bind (wpAny_mono (x s e) (fun v s' ⟨g, p⟩ => wpAny_mono (k v _ (e.trans g.ext) p s' (.refl _)) (fun u s'' ⟨g', p'⟩ => ⟨g.trans g', p'⟩) fun _ _ x => x) fun _ _ x => x)
theorem Ev.pure {α : Type} {v : α} {h : Heap} {P : α → Heap → Prop} (k : ∀ h', Ext h h' → P v h') : Ev w A (pure v) h P :=
  fun s e => wpAny_pure ⟨.refl s, k _ e⟩
/-- use of an Ev in a wp goal -/
theorem Ev.use {α : Type} {t : Sem α} {h : Heap} {P : α → Heap → Prop} {s : Shared} {Q : α → Shared → Prop} {E : Value → Shared → Prop} (x : Ev w A t h P) (e : Ext h s.heap)
    (k : ∀ v s', Grows s s' → P v s'.heap → Q v s') : wpAny (model PP w) A t Q E s :=
  wpAny_mono (x s e) (fun v s' ⟨g, p⟩ => k v s' g p) fun _ _ x => x.elim

structure Glo (w : World) (h : Heap) : Prop where
  X : (kK w.params).In h
  B : ∃ mb, h.Ns builtinsNs mb ∧ ∀ x : Str, x ≠ "__name__" → mb x = bootBuiltins x
  G : ∃ mg, h.Ns mainGlobals mg
  L : h.NoLimit
theorem Glo.mono {h h' : Heap} (g : Glo w h) (k : Ext h h') : Glo w h' :=
  ⟨g.X.keeps k, let ⟨mb, a, b⟩ := g.B; ⟨mb, a.keeps k, b⟩, let ⟨mg, a⟩ := g.G; ⟨mg, a.keeps k⟩, g.L.keeps k⟩

structure Rm (A : Around) (n : Nat) : Prop where
  h : A.handled = none
  d : A.depth ≤ 301 + n
  u : A.units ≤ 4 + 3 * n
theorem Rm.deeper {n : Nat} (r : Rm A n) (env : Env) : Rm (A.deeper env) (n + 1) := ⟨r.h, by show A.depth + 1 ≤ _; have := r.d; (walk_at "my om"), by show A.units + 3 ≤ _; have := r.u; (walk_at "my om")⟩
theorem Rm.room {n : Nat} (r : Rm A n) (hn : n ≤ 100) : A.depth < recursionLimit := by have := r.d; show A.depth < 1000; (walk_at "my om")
theorem Rm.units {n : Nat} (r : Rm A n) (hn : n ≤ 100) : A.units < cLine := by have := r.u; show A.units < 9900; (walk_at "my om")

noncomputable def Slot (env : Env) (h : Heap) (x : Str) (v : Value) : Prop :=
  (env.kindOf x = some .local ∧ ∃ m, h.Ns env.locals m ∧ m x = some v) ∨
  ((env.kindOf x = some .cell ∨ env.kindOf x = some .free) ∧ ∃ c, env.cells.lookup x = some c ∧ h.IsCell c (some v))
theorem Slot.mono {env : Env} {h h' : Heap} {x : Str} {v : Value} (e : Slot env h x v) (k : Ext h h') : Slot env h' x v := by
  rcases e with ⟨a, m, b, c⟩ | ⟨a, c, b, d⟩
  · exact .inl ⟨a, m, b.keeps k, c⟩
  · exact .inr ⟨a, c, b, d.keeps k⟩

structure Sit (w : World) (A : Around) (env : Env) (n : Nat) (ρ : List (Str × PV)) (h : Heap) : Prop where
  glo : Glo w h
  rm : Rm A n
  hn : n ≤ 100
  fn : env.scope.kind = .function
  eg : env.globals = mainGlobals
  eb : env.builtins = builtinsNs
  look : ∀ x pv, ρ.lookup x = some pv → ∃ v, Rep h pv v ∧ Slot env h x v
theorem Sit.mono {env : Env} {n : Nat} {ρ : List (Str × PV)} {h h' : Heap} (s : Sit w A env n ρ h) (k : Ext h h') : Sit w A env n ρ h' :=
  { s with glo := s.glo.mono k, look := fun x pv e => let ⟨v, a, b⟩ := s.look x pv e; ⟨v, Rep.mono k _ _ a, b.mono k⟩ }

noncomputable abbrev EvalsTo (w : World) (A : Around) (env : Env) (h : Heap) (e : PySem.Expr) (pv : PV) : Prop := Ev w A (eval e env) h fun v h' => Rep h' pv v
noncomputable abbrev TestTo (w : World) (A : Around) (env : Env) (h : Heap) (e : PySem.Expr) (b : Bool) : Prop := Ev w A (isTrue e env (eval e env)) h fun v _ => v = b

theorem EvalsTo.congr {env : Env} {h : Heap} {e : PySem.Expr} {x y : PV} (a : EvalsTo w A env h e x) (b : x = y) : EvalsTo w A env h e y := b ▸ a
theorem TestTo.congr {env : Env} {h : Heap} {e : PySem.Expr} {x y : Bool} (a : TestTo w A env h e x) (b : x = y) : TestTo w A env h e y := b ▸ a

variable {env : Env} {n : Nat} {ρ : List (Str × PV)} {h : Heap}

theorem E_Name (S : Sit w A env n ρ h) {x : Str} {pos : Pos} {pv : PV} (hx : ρ.lookup x = some pv) (hd : (x == ("__debug__" : Str)) = false) (hcd : (x == ("__classdict__" : Str)) = false) : EvalsTo w A env h (.Name x pos) pv := by
  intro s e
  obtain ⟨v, a, b⟩ := S.look x pv hx
  have a' := Rep.mono e _ _ a
  rcases b.mono e with ⟨k, m, hm, hv⟩ | ⟨k, c, hc, hv⟩
  · exact wpAny_Name (wpAny_loadName_local S.fn k hm hv ⟨.refl _, a'⟩) hd
  · rcases k with k | k
    · exact wpAny_Name (wpAny_loadName_cell S.fn k hc hv ⟨.refl _, a'⟩) hd
    · exact wpAny_Name (wpAny_loadName_free S.fn k hc hv ⟨.refl _, a'⟩ hcd) hd

/-- a global name of the text: its value is that very reference -/
theorem E_Glob (S : Sit w A env n ρ h) {x : Str} {pos : Pos} {v : Value} (hk : env.kindOf x = some .globalImplicit) (hx : nsIn (kK w.params) mainGlobals x = some (some v)) (hd : (x == ("__debug__" : Str)) = false) :
    Ev w A (eval (.Name x pos) env) h (fun u _ => u = v) := by
  intro s e
  obtain ⟨mg, G⟩ := (S.glo.mono e).G
  exact Name_function_global S.fn hk (loadGlobal_global (env := env) (by rw [S.eg]; exact G) (mg_of (S.glo.mono e).X G hx) ⟨.refl _, rfl⟩) hd
theorem E_Blt (S : Sit w A env n ρ h) {x : Str} {pos : Pos} {v : Value} (hk : env.kindOf x = some .globalImplicit) (hx : nsIn (kK w.params) mainGlobals x = some none) (hb : bootBuiltins x = some v) (hne : x ≠ ("__name__" : Str)) (hd : (x == ("__debug__" : Str)) = false) :
    Ev w A (eval (.Name x pos) env) h (fun u _ => u = v) := by
  intro s e
  obtain ⟨mg, G⟩ := (S.glo.mono e).G
  obtain ⟨mb, B, hB⟩ := (S.glo.mono e).B
  exact Name_function_global S.fn hk (loadGlobal_builtin (env := env) (by rw [S.eg]; exact G) (mg_none_of (S.glo.mono e).X G hx) (by rw [S.eb]; exact B) ((hB x hne).trans hb) ⟨.refl _, rfl⟩) hd

theorem E_Int {i : Int} {k : Nat} {pos : Pos} : EvalsTo w A env h (.Constant (.int i) k pos) (.int i) := fun s _ => wpAny_Constant_int ⟨.tok s _, .mkInt _ _⟩
theorem E_Float {i : UInt64} {k : Nat} {pos : Pos} : EvalsTo w A env h (.Constant (.float i) k pos) (.float i) := fun s _ => fun _ _ _ => ⟨.tok s _, .mkFloat _ _⟩
theorem E_Str {i : Str} {k : Nat} {pos : Pos} : EvalsTo w A env h (.Constant (.str i) k pos) (.str i) := fun s _ => Constant_str ⟨.tok s _, .mkStr _ _⟩
theorem E_None {k : Nat} {pos : Pos} : EvalsTo w A env h (.Constant .none k pos) .none := fun s _ => fun _ _ _ => ⟨.refl s, .mkNone⟩
theorem E_Bool {b : Bool} {k : Nat} {pos : Pos} : EvalsTo w A env h (.Constant (.bool b) k pos) (.bool b) := fun s _ => fun _ _ _ => ⟨.refl s, .mkBool b⟩

/-- what a binary operation makes of two values -/
noncomputable def BinTo (w : World) (A : Around) (h : Heap) (op : Operator) (x y z : PV) : Prop := ∀ h', Ext h h' → ∀ a b, Rep h' x a → Rep h' y b → Ev w A (binaryOp op a b) h' fun v h'' => Rep h'' z v
theorem E_BinOp {l r : PySem.Expr} {op : Operator} {pos : Pos} {x y z : PV} (hl : EvalsTo w A env h l x) (hr : EvalsTo w A env h r y) (hop : BinTo w A h op x y z) : EvalsTo w A env h (.BinOp l op r pos) z := by
  intro s e
  refine wpAny_BinOp (hl.use e fun a s₁ g₁ r₁ => hr.use (e.trans g₁.ext) fun b s₂ g₂ r₂ => ?_)
  exact (hop s₂.heap ((e.trans g₁.ext).trans g₂.ext) a b (Rep.mono g₂.ext _ _ r₁) r₂).use (.refl _) fun v s₃ g₃ r₃ => ⟨(g₁.trans g₂).trans g₃, r₃⟩

noncomputable def CmpTo (w : World) (A : Around) (h : Heap) (op : CmpOp) (x y : PV) (c : Bool) : Prop := ∀ h', Ext h h' → ∀ a b, Rep h' x a → Rep h' y b → Ev w A (compareOp op a b) h' fun v _ => v = .bool c
theorem E_Compare {l r : PySem.Expr} {op : CmpOp} {pos : Pos} {x y : PV} {c : Bool} (hl : EvalsTo w A env h l x) (hr : EvalsTo w A env h r y) (hop : CmpTo w A h op x y c) (hm : behindInMarks op r = false) : EvalsTo w A env h (.Compare l [op] [r] pos) (.bool c) := by
  intro s e
  refine wpAny_Compare1 (hl.use e fun a s₁ g₁ r₁ => hr.use (e.trans g₁.ext) fun b s₂ g₂ r₂ => ?_) hm
  exact (hop s₂.heap ((e.trans g₁.ext).trans g₂.ext) a b (Rep.mono g₂.ext _ _ r₁) r₂).use (.refl _) fun v s₃ g₃ r₃ => ⟨(g₁.trans g₂).trans g₃, by subst r₃; exact .mkBool c⟩
theorem T_Compare {l r : PySem.Expr} {op : CmpOp} {pos : Pos} {x y : PV} {c : Bool} (hl : EvalsTo w A env h l x) (hr : EvalsTo w A env h r y) (hop : CmpTo w A h op x y c) (hm : behindInMarks op r = false) : TestTo w A env h (.Compare l [op] [r] pos) c := by
  intro s e
  refine wpAny_isTrue_Compare1 (hl.use e fun a s₁ g₁ r₁ => hr.use (e.trans g₁.ext) fun b s₂ g₂ r₂ => ?_) hm
  exact (hop s₂.heap ((e.trans g₁.ext).trans g₂.ext) a b (Rep.mono g₂.ext _ _ r₁) r₂).use (.refl _) fun v s₃ g₃ r₃ => by subst r₃; exact wpAny_truthy_bool ⟨(g₁.trans g₂).trans g₃, rfl⟩

theorem E_IfExp {t b o : PySem.Expr} {pos : Pos} {c : Bool} {x : PV} (ht : TestTo w A env h t c) (hb : c = true → EvalsTo w A env h b x) (ho : c = false → EvalsTo w A env h o x) : EvalsTo w A env h (.IfExp t b o pos) x := by
  intro s e
  refine wpAny_IfExp (ht.use e fun v s₁ g₁ r₁ => ?_)
  subst r₁
  cases v with
  | true => exact (hb rfl).use (e.trans g₁.ext) fun v s₂ g₂ r₂ => ⟨g₁.trans g₂, r₂⟩
  | false => exact (ho rfl).use (e.trans g₁.ext) fun v s₂ g₂ r₂ => ⟨g₁.trans g₂, r₂⟩
end
end Mine

namespace Mine
theorem big {n : Int} (h : n.natAbs < 2 ^ 64) : n.natAbs < 2 ^ 1023 := Nat.lt_of_lt_of_le h (Nat.pow_le_pow_right (by decide) (by decide))
section
variable {w : World} {A : Around} {h : Heap}

theorem B_add_int {a b : Int} : BinTo w A h .Add (.int a) (.int b) (.int (a + b)) := by
  intro h' _ u v hu hv s e
  obtain ⟨t, rfl⟩ := rep_int hu; obtain ⟨t', rfl⟩ := rep_int hv
  with_reducible refine PyProof.Rows.add_int ?_
  exact ⟨.tok s _, .mkInt _ _⟩
theorem B_sub_int {a b : Int} : BinTo w A h .Sub (.int a) (.int b) (.int (a - b)) := by
  intro h' _ u v hu hv s e
  obtain ⟨t, rfl⟩ := rep_int hu; obtain ⟨t', rfl⟩ := rep_int hv
  with_reducible refine PyProof.Rows.sub_int ?_
  exact ⟨.tok s _, .mkInt _ _⟩
theorem B_mul_int {a b : Int} (hm : a.natAbs < 2 ^ 64) : BinTo w A h .Mult (.int a) (.int b) (.int (a * b)) := by
  intro h' _ u v hu hv s e
  obtain ⟨t, rfl⟩ := rep_int hu; obtain ⟨t', rfl⟩ := rep_int hv
  with_reducible refine PySem.P.mul_int ?_ (IntMulOk.of_left (intBits_le_64 (by (walk_at "my om")) (by (walk_at "my om"))))
  exact ⟨.tok s _, .mkInt _ _⟩
theorem B_floordiv_int {a b : Int} (hb : 0 < b) (hb' : b < 1073741824) : BinTo w A h .FloorDiv (.int a) (.int b) (.int (a / b)) := by
  intro h' _ u v hu hv s e
  obtain ⟨t, rfl⟩ := rep_int hu; obtain ⟨t', rfl⟩ := rep_int hv
  with_reducible refine PyProof.Rows.floordiv_int (by (walk_at "my om")) ⟨.tok s _, ?_⟩ (Or.inl (PyProof.noPylong_small (by (walk_at "my om"))))
  rw [← Int.fdiv_eq_ediv_of_nonneg a (by (walk_at "my om"))]
  exact .mkInt _ _
theorem B_mod_int {a b : Int} (hb : 0 < b) : BinTo w A h .Mod (.int a) (.int b) (.int (a % b)) := by
  intro h' _ u v hu hv s e
  obtain ⟨t, rfl⟩ := rep_int hu; obtain ⟨t', rfl⟩ := rep_int hv
  with_reducible refine PyProof.Rows.mod_int' (by (walk_at "my om")) ⟨.tok s _, ?_⟩
  rw [← Int.fmod_eq_emod_of_nonneg a (by (walk_at "my om"))]
  exact .mkInt _ _
theorem B_pow_int {a b : Int} (hn : 0 ≤ b) (hn2 : b ≤ 1000000) (ha : a.natAbs < 2 ^ 64) : BinTo w A h .Pow (.int a) (.int b) (.int (a ^ b.toNat)) := by
  intro h' _ u v hu hv s e
  obtain ⟨t, rfl⟩ := rep_int hu; obtain ⟨t', rfl⟩ := rep_int hv
  with_reducible refine PyProof.Rows.pow_int_small hn hn2 ha ?_
  exact ⟨.tok s _, .mkInt _ _⟩

noncomputable abbrev fofI (n : Int) : UInt64 := Float64.ofInt n
noncomputable abbrev fdivII (a b : Int) : UInt64 := Float64.ofFrac (decide (a < 0) != decide (b < 0)) a.natAbs b.natAbs

theorem B_add_float {a b : UInt64} : BinTo w A h .Add (.float a) (.float b) (.float (Float64.add a b)) := by
  intro h' _ u v hu hv s e
  obtain ⟨t, rfl⟩ := rep_float hu; obtain ⟨t', rfl⟩ := rep_float hv
  with_reducible refine PyProof.Rows.add_float ?_
  exact ⟨.tok s _, .mkFloat _ _⟩
theorem B_sub_float {a b : UInt64} : BinTo w A h .Sub (.float a) (.float b) (.float (Float64.sub a b)) := by
  intro h' _ u v hu hv s e
  obtain ⟨t, rfl⟩ := rep_float hu; obtain ⟨t', rfl⟩ := rep_float hv
  with_reducible refine PyProof.Rows.sub_float ?_
  exact ⟨.tok s _, .mkFloat _ _⟩
theorem B_mul_float {a b : UInt64} : BinTo w A h .Mult (.float a) (.float b) (.float (Float64.mul a b)) := by
  intro h' _ u v hu hv s e
  obtain ⟨t, rfl⟩ := rep_float hu; obtain ⟨t', rfl⟩ := rep_float hv
  with_reducible refine PyProof.Rows.mul_float ?_
  exact ⟨.tok s _, .mkFloat _ _⟩
theorem B_div_float {a b : UInt64} (hA : A.handled = none) (hb : Float64.isZero b = false) : BinTo w A h .Div (.float a) (.float b) (.float (Float64.div a b)) := by
  intro h' _ u v hu hv s e
  obtain ⟨t, rfl⟩ := rep_float hu; obtain ⟨t', rfl⟩ := rep_float hv
  with_reducible refine PyProof.Rows.truediv_float_or hA (fun q => by rw [hb] at q; cases q) fun _ => ?_
  exact ⟨.tok s _, .mkFloat _ _⟩
theorem B_mod_float {a b : UInt64} (hA : A.handled = none) (hb : Float64.isZero b = false) : BinTo w A h .Mod (.float a) (.float b) (.float (Float64.divmod a b).2) := by
  intro h' _ u v hu hv s e
  obtain ⟨t, rfl⟩ := rep_float hu; obtain ⟨t', rfl⟩ := rep_float hv
  with_reducible refine PySem.Flt.mod_ff hA (fun q => by rw [hb] at q; cases q) fun _ => ?_
  exact ⟨.tok s _, .mkFloat _ _⟩
theorem B_add_if {n : Int} {a : UInt64} (hn : n.natAbs < 2 ^ 64) : BinTo w A h .Add (.int n) (.float a) (.float (Float64.add (fofI n) a)) := by
  intro h' _ u v hu hv s e
  obtain ⟨t, rfl⟩ := rep_int hu; obtain ⟨t', rfl⟩ := rep_float hv
  with_reducible refine PyProof.Rows.add_if_fits (big hn) ?_
  exact ⟨.tok s _, .mkFloat _ _⟩
theorem B_sub_if {n : Int} {a : UInt64} (hn : n.natAbs < 2 ^ 64) : BinTo w A h .Sub (.int n) (.float a) (.float (Float64.sub (fofI n) a)) := by
  intro h' _ u v hu hv s e
  obtain ⟨t, rfl⟩ := rep_int hu; obtain ⟨t', rfl⟩ := rep_float hv
  with_reducible refine PyProof.Rows.sub_if_fits (big hn) ?_
  exact ⟨.tok s _, .mkFloat _ _⟩
theorem B_sub_fi {n : Int} {a : UInt64} (hn : n.natAbs < 2 ^ 64) : BinTo w A h .Sub (.float a) (.int n) (.float (Float64.sub a (fofI n))) := by
  intro h' _ u v hu hv s e
  obtain ⟨t, rfl⟩ := rep_float hu; obtain ⟨t', rfl⟩ := rep_int hv
  with_reducible refine PyProof.Rows.sub_fi_fits (big hn) ?_
  exact ⟨.tok s _, .mkFloat _ _⟩
theorem B_mul_if {n : Int} {a : UInt64} (hn : n.natAbs < 2 ^ 64) : BinTo w A h .Mult (.int n) (.float a) (.float (Float64.mul (fofI n) a)) := by
  intro h' _ u v hu hv s e
  obtain ⟨t, rfl⟩ := rep_int hu; obtain ⟨t', rfl⟩ := rep_float hv
  with_reducible refine PyProof.Rows.mul_if_fits (big hn) ?_
  exact ⟨.tok s _, .mkFloat _ _⟩
theorem B_mul_fi {n : Int} {a : UInt64} (hn : n.natAbs < 2 ^ 64) : BinTo w A h .Mult (.float a) (.int n) (.float (Float64.mul a (fofI n))) := by
  intro h' _ u v hu hv s e
  obtain ⟨t, rfl⟩ := rep_float hu; obtain ⟨t', rfl⟩ := rep_int hv
  with_reducible refine PyProof.Rows.mul_fi_fits (big hn) ?_
  exact ⟨.tok s _, .mkFloat _ _⟩
theorem B_div_int {a b : Int} (hA : A.handled = none) (ha : a.natAbs < 2 ^ 64) (hb : b ≠ 0) : BinTo w A h .Div (.int a) (.int b) (.float (fdivII a b)) := by
  intro h' _ u v hu hv s e
  obtain ⟨t, rfl⟩ := rep_int hu; obtain ⟨t', rfl⟩ := rep_int hv
  with_reducible refine PySem.Flt.div_ii_fits hA (big ha) (fun q => absurd q hb) fun _ _ => ?_
  exact ⟨.tok s _, .mkFloat _ _⟩
theorem B_add_str {a b : Str} (hs : a.length + b.length ≤ sizeLine) : BinTo w A h .Add (.str a) (.str b) (.str (a ++ b)) := by
  intro h' _ u v hu hv s e
  obtain ⟨t, rfl⟩ := rep_str hu; obtain ⟨t', rfl⟩ := rep_str hv
  with_reducible refine PyProof.Rows.SBL.add (hsz := hs) (fun tk _ _ => ?_)
  exact ⟨.tok s _, .mkStr _ _⟩

theorem C_eq_int {a b : Int} : CmpTo w A h .Eq (.int a) (.int b) (a == b) := by
  intro h' _ u v hu hv s e
  obtain ⟨t, rfl⟩ := rep_int hu; obtain ⟨t', rfl⟩ := rep_int hv
  with_reducible refine PyProof.Rows.eq_int ?_
  exact ⟨.refl s, rfl⟩
theorem C_lt_int {a b : Int} : CmpTo w A h .Lt (.int a) (.int b) (decide (a < b)) := by
  intro h' _ u v hu hv s e
  obtain ⟨t, rfl⟩ := rep_int hu; obtain ⟨t', rfl⟩ := rep_int hv
  with_reducible refine PyProof.Rows.lt_int ?_
  exact ⟨.refl s, rfl⟩
theorem C_gt_int {a b : Int} : CmpTo w A h .Gt (.int a) (.int b) (decide (b < a)) := by
  intro h' _ u v hu hv s e
  obtain ⟨t, rfl⟩ := rep_int hu; obtain ⟨t', rfl⟩ := rep_int hv
  with_reducible refine PyProof.Rows.gt_int ?_
  exact ⟨.refl s, rfl⟩
theorem C_le_int {a b : Int} : CmpTo w A h .LtE (.int a) (.int b) (decide (a ≤ b)) := by
  intro h' _ u v hu hv s e
  obtain ⟨t, rfl⟩ := rep_int hu; obtain ⟨t', rfl⟩ := rep_int hv
  with_reducible refine PyProof.Rows.le_int ?_
  exact ⟨.refl s, rfl⟩
theorem C_ge_int {a b : Int} : CmpTo w A h .GtE (.int a) (.int b) (decide (b ≤ a)) := by
  intro h' _ u v hu hv s e
  obtain ⟨t, rfl⟩ := rep_int hu; obtain ⟨t', rfl⟩ := rep_int hv
  with_reducible refine PyProof.Rows.ge_int ?_
  exact ⟨.refl s, rfl⟩
theorem C_eq_float {a b : UInt64} : CmpTo w A h .Eq (.float a) (.float b) (Float64.cmp a b == some Ordering.eq) := by
  intro h' _ u v hu hv s e
  obtain ⟨t, rfl⟩ := rep_float hu; obtain ⟨t', rfl⟩ := rep_float hv
  with_reducible refine AutoFloatOps.eq_0 ?_
  exact ⟨.refl s, rfl⟩
theorem C_lt_float {a b : UInt64} : CmpTo w A h .Lt (.float a) (.float b) (Float64.cmp a b == some Ordering.lt) := by
  intro h' _ u v hu hv s e
  obtain ⟨t, rfl⟩ := rep_float hu; obtain ⟨t', rfl⟩ := rep_float hv
  with_reducible refine AutoFloatOps.lt_0 ?_
  exact ⟨.refl s, rfl⟩
theorem C_le_float {a b : UInt64} : CmpTo w A h .LtE (.float a) (.float b) (Float64.cmp a b == some Ordering.lt || Float64.cmp a b == some Ordering.eq) := by
  intro h' _ u v hu hv s e
  obtain ⟨t, rfl⟩ := rep_float hu; obtain ⟨t', rfl⟩ := rep_float hv
  with_reducible refine AutoFloatOps.le_0 ?_
  exact ⟨.refl s, rfl⟩
theorem C_eq_fi {a : UInt64} {n : Int} : CmpTo w A h .Eq (.float a) (.int n) (Float64.cmpInt a n == some Ordering.eq) := by
  intro h' _ u v hu hv s e
  obtain ⟨t, rfl⟩ := rep_float hu; obtain ⟨t', rfl⟩ := rep_int hv
  with_reducible refine PyProof.Rows.eq_fi ?_
  exact ⟨.refl s, rfl⟩
theorem C_ne_fi {a : UInt64} {n : Int} : CmpTo w A h .NotEq (.float a) (.int n) (Float64.cmpInt a n != some Ordering.eq) := by
  intro h' _ u v hu hv s e
  obtain ⟨t, rfl⟩ := rep_float hu; obtain ⟨t', rfl⟩ := rep_int hv
  with_reducible refine PyProof.Rows.ne_fi ?_
  exact ⟨.refl s, rfl⟩
theorem C_lt_fi {a : UInt64} {n : Int} : CmpTo w A h .Lt (.float a) (.int n) (Float64.cmpInt a n == some Ordering.lt) := by
  intro h' _ u v hu hv s e
  obtain ⟨t, rfl⟩ := rep_float hu; obtain ⟨t', rfl⟩ := rep_int hv
  with_reducible refine PyProof.Rows.lt_fi ?_
  exact ⟨.refl s, rfl⟩
theorem C_gt_fi {a : UInt64} {n : Int} : CmpTo w A h .Gt (.float a) (.int n) (Float64.cmpInt a n == some Ordering.gt) := by
  intro h' _ u v hu hv s e
  obtain ⟨t, rfl⟩ := rep_float hu; obtain ⟨t', rfl⟩ := rep_int hv
  with_reducible refine PyProof.Rows.gt_fi ?_
  exact ⟨.refl s, rfl⟩
theorem C_lt_bool {a b : Bool} : CmpTo w A h .Lt (.bool a) (.bool b) (!a && b) := by
  intro h' _ u v hu hv s e
  rw [rep_bool hu, rep_bool hv]
  with_reducible refine PyProof.Rows.lt_bool ?_
  exact ⟨.refl s, by cases a <;> cases b <;> rfl⟩
theorem C_eq_str {a b : Str} : CmpTo w A h .Eq (.str a) (.str b) (a == b) := by
  intro h' _ u v hu hv s e
  obtain ⟨t, rfl⟩ := rep_str hu; obtain ⟨t', rfl⟩ := rep_str hv
  with_reducible refine PyProof.Rows.eq_str ?_
  exact ⟨.refl s, rfl⟩
theorem C_notin_str {a b : Str} : CmpTo w A h .NotIn (.str a) (.str b) (!(!(Builtin.Str.occurrences b a 0 b.length 1).isEmpty)) := by
  intro h' _ u v hu hv s e
  obtain ⟨t, rfl⟩ := rep_str hu; obtain ⟨t', rfl⟩ := rep_str hv
  with_reducible refine PySem.P.notIn_str ?_
  exact ⟨.refl s, rfl⟩
end
end Mine

namespace Mine
section
variable {w : World} {A : Around} {env : Env} {h : Heap}

noncomputable abbrev ArgsTo (w : World) (A : Around) (env : Env) (h : Heap) (pos : Pos) (es : List PySem.Expr) (pvs : List PV) : Prop := Ev w A (spliced (backTo pos (starEach es env))) h fun vs h' => Reps h' pvs vs
theorem A_nil {pos : Pos} : ArgsTo w A env h pos [] [] := fun s _ => args_nil ⟨.refl s, .nil⟩
theorem A_cons {pos : Pos} {e : PySem.Expr} {es : List PySem.Expr} {x : PV} {xs : List PV} (he : EvalsTo w A env h e x) (hes : ArgsTo w A env h pos es xs) (hp : starEach (e :: es) env = (false, eval e env) :: starEach es env) : ArgsTo w A env h pos (e :: es) (x :: xs) := by
  intro s k
  refine args_cons ?_ hp
  refine he.use k fun v s₁ g₁ r₁ => ?_
  refine hes.use (k.trans g₁.ext) fun vs s₂ g₂ r₂ => ?_
  exact ⟨g₁.trans g₂, .cons (Rep.mono g₂.ext _ _ r₁) r₂⟩

/-- a callee that is kept by the frame or the machine -/
noncomputable def Kept (w : World) (h : Heap) (f : Value) : Prop := ∀ h', Ext h h' → ∃ k, (k = Keeper.frame ∨ k = Keeper.machine ∨ k = Keeper.boundFrame) ∧ Looks (model PP w) h' (keeperOf f) k
theorem Kept.builtin {id : String} : Kept w h (.builtin id) := fun _ _ => ⟨.machine, .inr (.inl rfl), Looks.of_pure rfl⟩
theorem Kept.type {id : String} : Kept w h (.type id) := fun _ _ => ⟨.machine, .inr (.inl rfl), Looks.of_pure rfl⟩
theorem Kept.ofK {f : Value} (g : Glo w h) (hk : keepIn (kK w.params) f = true) : Kept w h f := fun h' k => keeps_K hk h' (g.mono k).X

noncomputable def CallTo (w : World) (A : Around) (h : Heap) (f : Value) (pvs : List PV) (r : PV) : Prop := ∀ h', Ext h h' → ∀ vs, Reps h' pvs vs → Ev w A (call f vs) h' fun v h'' => Rep h'' r v

theorem evalArgs_any {f : Value} {pos : Pos} {es : List PySem.Expr} {Q : Args → Shared → Prop} {E : Value → Shared → Prop} {M : Model} {s : Shared} (hn : ∀ e ∈ es, isStarred e = false)
    (h : wpAny M A (spliced (backTo pos (starEach es env))) (fun vs s' => Q ⟨vs, []⟩ s') E s) : wpAny M A (evalArgs f true (backTo pos (starEach es env)) []) Q E s := by
  cases es with
  | nil =>
    show wpAny M A (evalArgs f true [] []) Q E s
    unfold evalArgs
    show wpAny M A (spliced [] >>= _) Q E s
    refine wpAny_bind (wpAny_mono h (fun vs s' h' => wpAny_bind (wpAny_pure (wpAny_holding ?_))) fun _ _ x => x)
    exact wpAny_bind (wpAny_pure (wpAny_bind (wpAny_pure (wpAny_pure h'))))
  | cons e r =>
    have he : starEach (e :: r) env = (false, eval e env) :: starEach r env := by
      have := hn e List.mem_cons_self
      cases e <;> first | rfl | (exact Bool.noConfusion (show true = false from this))
    have he' : backTo pos (starEach (e :: r) env) = (false, eval e env) :: backTo pos (starEach r env) := by rw [he]; rfl
    rw [he'] at h ⊢
    exact evalArgs_plain h

theorem E_Call {fn : PySem.Expr} {es : List PySem.Expr} {pos : Pos} {f : Value} {pvs : List PV} {r : PV} (hf : Ev w A (eval fn env) h fun u _ => u = f) (hk : Kept w h f) (hargs : ArgsTo w A env h pos es pvs) (hc : CallTo w A h f pvs r)
    (hn : ∀ e ∈ es, isStarred e = false) (hplain : (backTo pos (starEach es env)).any (·.1) = false)
    (he : eval (.Call fn es [] pos) env = (do callWith pos (← eval fn env) [] (backTo pos (starEach es env)) (backToKw pos (keywordEach [] env)))) :
    EvalsTo w A env h (.Call fn es [] pos) r := by
  intro s e
  rw [he]
  refine wpAny_bind (hf.use e fun u s₁ g₁ r₁ => ?_)
  subst r₁
  refine callWith_of (P := fun h' => Ext h h') (by rw [hplain]; rfl) hk ?_
  refine evalArgs_any hn ?_
  refine hargs.use (e.trans g₁.ext) fun vs s₂ g₂ r₂ => ?_
  refine ⟨(e.trans g₁.ext).trans g₂.ext, ?_⟩
  exact (hc s₂.heap ((e.trans g₁.ext).trans g₂.ext) vs r₂).use (.refl _) fun v s₃ g₃ r₃ => ⟨(g₁.trans g₂).trans g₃, r₃⟩

theorem reps1 {x : PV} {vs : List Value} (r : Reps h [x] vs) : ∃ a, vs = [a] ∧ Rep h x a := by
  simp only [Reps] at r
  obtain ⟨a, r, rfl, e, rfl⟩ := r
  exact ⟨a, rfl, e⟩
theorem reps2 {x y : PV} {vs : List Value} (r : Reps h [x, y] vs) : ∃ a b, vs = [a, b] ∧ Rep h x a ∧ Rep h y b := by
  simp only [Reps] at r
  obtain ⟨a, r, rfl, e, b, r', rfl, e', rfl⟩ := r
  exact ⟨a, b, rfl, e, e'⟩
theorem reps3 {x y z : PV} {vs : List Value} (r : Reps h [x, y, z] vs) : ∃ a b c, vs = [a, b, c] ∧ Rep h x a ∧ Rep h y b ∧ Rep h z c := by
  simp only [Reps] at r
  obtain ⟨a, r, rfl, e, b, r', rfl, e', c, r'', rfl, e'', rfl⟩ := r
  exact ⟨a, b, c, rfl, e, e', e''⟩
theorem reps4 {x y z u : PV} {vs : List Value} (r : Reps h [x, y, z, u] vs) : ∃ a b c d, vs = [a, b, c, d] ∧ Rep h x a ∧ Rep h y b ∧ Rep h z c ∧ Rep h u d := by
  simp only [Reps] at r
  obtain ⟨a, r, rfl, e, b, r', rfl, e', c, r'', rfl, e'', d, r3, rfl, e3, rfl⟩ := r
  exact ⟨a, b, c, d, rfl, e, e', e'', e3⟩

noncomputable abbrev fmax2 (x y : UInt64) : UInt64 := if Float64.cmp x y == some .lt then y else x
noncomputable abbrev fmin2 (x y : UInt64) : UInt64 := if Float64.cmp y x == some .lt then y else x

theorem K_min2f {x y : UInt64} (hA : A.handled = none) : CallTo w A h (.builtin "min") [.float x, .float y] (.float (fmin2 x y)) := by
  intro h' k vs r s e
  obtain ⟨a, b, rfl, ra, rb⟩ := reps2 r
  obtain ⟨t, rfl⟩ := rep_float ra; obtain ⟨u, rfl⟩ := rep_float rb
  with_reducible refine min_two_num hA (.float _ _) (.float _ _) fun h'' tk k => ?_
  refine ⟨.heap k _, ?_⟩
  show Rep h'' (.float (if (Float64.cmp y x == some .lt) = true then y else x)) (if (Float64.cmp y x == some .lt) = true then .float y u else .float x t)
  cases (Float64.cmp y x == some .lt) <;> exact .mkFloat _ _
theorem K_max2i {x y : Int} (hA : A.handled = none) : CallTo w A h (.builtin "max") [.int x, .int y] (.int (max x y)) := by
  intro h' k vs r s e
  obtain ⟨a, b, rfl, ra, rb⟩ := reps2 r
  obtain ⟨t, rfl⟩ := rep_int ra; obtain ⟨u, rfl⟩ := rep_int rb
  with_reducible refine max_two_num hA (.int _ _) (.int _ _) fun h'' tk k => ?_
  refine ⟨.heap k _, ?_⟩
  show Rep h'' _ (if decide (x < y) = true then _ else _)
  simp only [decide_eq_true_eq]
  split
  · rw [Int.max_eq_right (by (walk_at "my om"))]; exact .mkInt _ _
  · rw [Int.max_eq_left (by (walk_at "my om"))]; exact .mkInt _ _
theorem K_min2i {x y : Int} (hA : A.handled = none) : CallTo w A h (.builtin "min") [.int x, .int y] (.int (min x y)) := by
  intro h' k vs r s e
  obtain ⟨a, b, rfl, ra, rb⟩ := reps2 r
  obtain ⟨t, rfl⟩ := rep_int ra; obtain ⟨u, rfl⟩ := rep_int rb
  with_reducible refine min_two_num hA (.int _ _) (.int _ _) fun h'' tk k => ?_
  refine ⟨.heap k _, ?_⟩
  show Rep h'' _ (if decide (y < x) = true then _ else _)
  simp only [decide_eq_true_eq]
  split
  · rw [Int.min_eq_right (by (walk_at "my om"))]; exact .mkInt _ _
  · rw [Int.min_eq_left (by (walk_at "my om"))]; exact .mkInt _ _

theorem arg3 {a b c r : Value} {bt : Nat → Nat → Bool} (hP : (#[a, b, c] : Array Value)[argBest bt 2]? = some r) : r = if bt 1 0 = true then (if bt 2 1 = true then c else b) else (if bt 2 0 = true then c else a) := by
  have e : argBest bt 2 = if bt 2 (if bt 1 0 = true then 1 else 0) = true then 2 else (if bt 1 0 = true then 1 else 0) := rfl
  rw [e] at hP
  cases c1 : bt 1 0
  · rw [c1] at hP
    replace hP : (#[a, b, c] : Array Value)[if bt 2 0 = true then 2 else 0]? = some r := hP
    cases c2 : bt 2 0 <;> rw [c2] at hP <;> cases hP <;> rfl
  · rw [c1] at hP
    replace hP : (#[a, b, c] : Array Value)[if bt 2 1 = true then 2 else 1]? = some r := hP
    cases c2 : bt 2 1 <;> rw [c2] at hP <;> cases hP <;> rfl
theorem pick3 {h : Heap} {x y z : UInt64} {t u v : Nat} (p q r : Bool) : Rep h (.float (if p = true then (if q = true then z else y) else (if r = true then z else x))) (if p = true then (if q = true then .float z v else .float y u) else (if r = true then .float z v else .float x t)) := by
  cases p <;> cases q <;> cases r <;> exact .mkFloat _ _
theorem fmax2_eq {x y z : UInt64} : fmax2 (fmax2 x y) z = if (Float64.cmp x y == some .lt) = true then (if (Float64.cmp y z == some .lt) = true then z else y) else (if (Float64.cmp x z == some .lt) = true then z else x) := by
  unfold fmax2; cases (Float64.cmp x y == some .lt) <;> rfl
theorem fmin2_eq {x y z : UInt64} : fmin2 (fmin2 x y) z = if (Float64.cmp y x == some .lt) = true then (if (Float64.cmp z y == some .lt) = true then z else y) else (if (Float64.cmp z x == some .lt) = true then z else x) := by
  unfold fmin2; cases (Float64.cmp y x == some .lt) <;> rfl
theorem K_max3f {x y z : UInt64} (hA : A.handled = none) : CallTo w A h (.builtin "max") [.float x, .float y, .float z] (.float (fmax2 (fmax2 x y) z)) := by
  intro h0 k0 vs r s e0
  obtain ⟨a, b, c, rfl, ra, rb, rc⟩ := reps3 r
  obtain ⟨t, rfl⟩ := rep_float ra; obtain ⟨u, rfl⟩ := rep_float rb; obtain ⟨v, rfl⟩ := rep_float rc
  have hT : (s.heap.push { cls := .type "tuple", data := .seq #[.float x t, .float y u, .float z v] }).IsTuple s.heap.objs.size #[.float x t, .float y u, .float z v] := ⟨_, Heap.get?_push_size _ rfl, rfl, 0, rfl⟩
  with_reducible refine call_max_three (wpAny_pyIter_tuple hT ?_)
  have hsz : (s.heap.push { cls := .type "tuple", data := .seq #[.float x t, .float y u, .float z v] }).objs.size = s.heap.objs.size + 1 := Heap.size_push ..
  refine ⟨_, [_, s.heap.objs.size], [_], _, _, _, _, rfl, Walks.tuple (A := A.in1) hA _ s.heap.objs.size (by rw [hsz]; exact Nat.ne_of_lt (Nat.lt_succ_self _)) #[.float x t, .float y u, .float z v],
    ⟨⟨_, Heap.get?_push_size _ rfl, rfl, rfl⟩, hT.push _⟩, fun c hc => ?_, by simp, cmpOf_gt #[.float x t, .float y u, .float z v] (by intro v hv; simp at hv; rcases hv with rfl | rfl | rfl <;> exact .float _ _), fun r h' tk hP hk => ?_⟩
  · show c < ((s.heap.push _).push _).objs.size
    rw [Heap.size_push, hsz]
    rcases List.mem_cons.mp hc with rfl | hc
    · rw [hsz]; exact Nat.lt_succ_self _
    · rcases List.mem_cons.mp hc with rfl | hc
      · exact Nat.lt_succ_of_lt (Nat.lt_succ_self _)
      · cases hc
  · have hold : Ext s.heap h' := fun c o e => by
      refine hk c o (fun hm => ?_) (Heap.get?_push_of_some _ (Heap.get?_push_of_some _ e))
      rcases List.mem_cons.mp hm with e1 | hm
      · have := Heap.lt_size e; rw [e1, hsz] at this; exact Nat.lt_irrefl _ (Nat.lt_of_succ_lt this)
      · cases hm
    refine ⟨.heap hold _, ?_⟩
    dsimp only at hP ⊢
    have e2 : (#[Value.float x t, .float y u, .float z v] : Array Value).size - 1 = 2 := rfl
    rw [e2] at hP
    rw [arg3 hP, fmax2_eq]
    exact pick3 (Float64.cmp x y == some .lt) (Float64.cmp y z == some .lt) (Float64.cmp x z == some .lt)

theorem K_min3f {x y z : UInt64} (hA : A.handled = none) : CallTo w A h (.builtin "min") [.float x, .float y, .float z] (.float (fmin2 (fmin2 x y) z)) := by
  intro h0 k0 vs r s e0
  obtain ⟨a, b, c, rfl, ra, rb, rc⟩ := reps3 r
  obtain ⟨t, rfl⟩ := rep_float ra; obtain ⟨u, rfl⟩ := rep_float rb; obtain ⟨v, rfl⟩ := rep_float rc
  have hT : (s.heap.push { cls := .type "tuple", data := .seq #[.float x t, .float y u, .float z v] }).IsTuple s.heap.objs.size #[.float x t, .float y u, .float z v] := ⟨_, Heap.get?_push_size _ rfl, rfl, 0, rfl⟩
  with_reducible refine call_min_three (wpAny_pyIter_tuple hT ?_)
  have hsz : (s.heap.push { cls := .type "tuple", data := .seq #[.float x t, .float y u, .float z v] }).objs.size = s.heap.objs.size + 1 := Heap.size_push ..
  refine ⟨_, [_, s.heap.objs.size], [_], _, _, _, _, rfl, Walks.tuple (A := A.in1) hA _ s.heap.objs.size (by rw [hsz]; exact Nat.ne_of_lt (Nat.lt_succ_self _)) #[.float x t, .float y u, .float z v],
    ⟨⟨_, Heap.get?_push_size _ rfl, rfl, rfl⟩, hT.push _⟩, fun c hc => ?_, by simp, cmpOf_lt #[.float x t, .float y u, .float z v] (by intro v hv; simp at hv; rcases hv with rfl | rfl | rfl <;> exact .float _ _), fun r h' tk hP hk => ?_⟩
  · show c < ((s.heap.push _).push _).objs.size
    rw [Heap.size_push, hsz]
    rcases List.mem_cons.mp hc with rfl | hc
    · rw [hsz]; exact Nat.lt_succ_self _
    · rcases List.mem_cons.mp hc with rfl | hc
      · exact Nat.lt_succ_of_lt (Nat.lt_succ_self _)
      · cases hc
  · have hold : Ext s.heap h' := fun c o e => by
      refine hk c o (fun hm => ?_) (Heap.get?_push_of_some _ (Heap.get?_push_of_some _ e))
      rcases List.mem_cons.mp hm with e1 | hm
      · have := Heap.lt_size e; rw [e1, hsz] at this; exact Nat.lt_irrefl _ (Nat.lt_of_succ_lt this)
      · cases hm
    refine ⟨.heap hold _, ?_⟩
    dsimp only at hP ⊢
    have e2 : (#[Value.float x t, .float y u, .float z v] : Array Value).size - 1 = 2 := rfl
    rw [e2] at hP
    rw [arg3 hP, fmin2_eq]
    exact pick3 (Float64.cmp y x == some .lt) (Float64.cmp z y == some .lt) (Float64.cmp z x == some .lt)
end
end Mine

namespace Mine
theorem Still.sameBut {h h' : Heap} {a : Addr} (s : Heap.SameBut a h h') (hn : ∀ o xs n, h.get? a = some o → o.data ≠ .seq xs n) : Still h h' := fun b o xs n e d => by
  by_cases hb : b = a
  · subst hb; exact absurd d (hn o xs n e)
  · exact (s.2 b hb).trans e
theorem ns_notSeq {h : Heap} {a : Addr} {m : Str → Option Value} (x : h.Ns a m) : ∀ o xs n, h.get? a = some o → o.data ≠ .seq xs n := fun o xs n e d => by
  obtain ⟨o', es, ep, e', hd, _⟩ := x
  rw [e] at e'; cases e'; rw [d] at hd; cases hd
theorem cell_notSeq {h : Heap} {a : Addr} {v : Option Value} (x : h.IsCell a v) : ∀ o xs n, h.get? a = some o → o.data ≠ .seq xs n := fun o xs n e d => by
  obtain ⟨o', e', hd⟩ := x
  rw [e] at e'; cases e'; rw [d] at hd; cases hd
theorem ns_cell_ne {h : Heap} {a c : Addr} {m : Str → Option Value} {v : Option Value} (x : h.Ns a m) (y : h.IsCell c v) : c ≠ a := fun q => by
  subst q
  obtain ⟨o, es, ep, e, hd, _⟩ := x
  obtain ⟨o', e', hd'⟩ := y
  rw [e] at e'; cases e'; rw [hd] at hd'; cases hd'
theorem ns_unique {h : Heap} {a : Addr} {m m' : Str → Option Value} (x : h.Ns a m) (y : h.Ns a m') : m = m' := by
  obtain ⟨o, es, ep, e, hd, _, hf⟩ := x
  obtain ⟨o', es', ep', e', hd', _, hf'⟩ := y
  rw [e] at e'; cases e'; rw [hd] at hd'; cases hd'
  funext n
  rw [← hf n, ← hf' n]
noncomputable def Keep (h h' : Heap) : Prop := ∀ b o, h.get? b = some o → (∀ es ep, o.data ≠ .dict es ep) → (∀ v, o.data ≠ .cell v) → h'.get? b = some o
theorem Keep.refl (h : Heap) : Keep h h := fun _ _ e _ _ => e
theorem Keep.trans {a b c : Heap} (x : Keep a b) (y : Keep b c) : Keep a c := fun i o e d k => y i o (x i o e d k) d k
theorem Ext.keep {h h' : Heap} (x : Ext h h') : Keep h h' := fun b o e _ _ => x b o e
theorem Keep.sameNs {h h' : Heap} {a : Addr} {m : Str → Option Value} (s : Heap.SameBut a h h') (x : h.Ns a m) : Keep h h' := fun b o e d _ => by
  by_cases hb : b = a
  · subst hb
    obtain ⟨o', es, ep, e', hd, _⟩ := x
    rw [e] at e'; cases e'; exact absurd hd (d es ep)
  · exact (s.2 b hb).trans e
theorem Keep.sameCell {h h' : Heap} {a : Addr} {v : Option Value} (s : Heap.SameBut a h h') (x : h.IsCell a v) : Keep h h' := fun b o e _ k => by
  by_cases hb : b = a
  · subst hb
    obtain ⟨o', e', hd⟩ := x
    rw [e] at e'; cases e'; exact absurd hd (k v)
  · exact (s.2 b hb).trans e

noncomputable def Same (s s' : Shared) : Prop := ∃ h tk, s' = { s with heap := h, toks := tk }
theorem Same.refl (s : Shared) : Same s s := ⟨s.heap, s.toks, rfl⟩
theorem Same.trans {a b c : Shared} (x : Same a b) (y : Same b c) : Same a c := by
  obtain ⟨h, tk, rfl⟩ := x
  obtain ⟨h', tk', rfl⟩ := y
  exact ⟨h', tk', rfl⟩
theorem Grows.same {a b : Shared} (x : Grows a b) : Same a b := let ⟨h, tk, e, _⟩ := x; ⟨h, tk, e⟩

/-- a frame: the heap that stood before it is kept; its names have these values -/
structure Frm (w : World) (A : Around) (env : Env) (n : Nat) (h₀ : Heap) (ρ : List (Str × PV)) (h : Heap) : Prop where
  rm : Rm A n
  hn : n ≤ 100
  fn : env.scope.kind = .function
  eg : env.globals = mainGlobals
  eb : env.builtins = builtinsNs
  glo0 : Glo w h₀
  ext : Ext h₀ h
  above : h₀.objs.size ≤ env.locals
  ns : ∃ m, h.Ns env.locals m
  cells : ∀ x c, env.cells.lookup x = some c → h₀.objs.size ≤ c ∧ ∃ v, h.IsCell c v
  apart : ∀ x y c, env.cells.lookup x = some c → env.cells.lookup y = some c → x = y
  look : ∀ x pv, ρ.lookup x = some pv → ∃ v, Rep h pv v ∧ Slot env h x v

section
variable {w : World} {A : Around} {env : Env} {n : Nat} {h₀ h : Heap} {ρ : List (Str × PV)}

theorem Frm.sit (F : Frm w A env n h₀ ρ h) : Sit w A env n ρ h := ⟨F.glo0.mono F.ext, F.rm, F.hn, F.fn, F.eg, F.eb, F.look⟩
theorem Frm.grow {h' : Heap} (F : Frm w A env n h₀ ρ h) (k : Ext h h') : Frm w A env n h₀ ρ h' :=
  { F with
    ext := F.ext.trans k
    ns := let ⟨m, a⟩ := F.ns; ⟨m, a.keeps k⟩
    cells := fun x c e => let ⟨a, v, b⟩ := F.cells x c e; ⟨a, v, b.keeps k⟩
    look := fun x pv e => let ⟨v, a, b⟩ := F.look x pv e; ⟨v, Rep.mono k _ _ a, b.mono k⟩ }
/-- other names may be forgotten -/
theorem Frm.sub {ρ' : List (Str × PV)} (F : Frm w A env n h₀ ρ h) (k : ∀ x pv, ρ'.lookup x = some pv → ρ.lookup x = some pv) : Frm w A env n h₀ ρ' h := { F with look := fun x pv e => F.look x pv (k x pv e) }

theorem lookup_cons_ne {ρ : List (Str × PV)} {x y : Str} {pv : PV} (hne : ¬ y = x) : ((x, pv) :: ρ).lookup y = ρ.lookup y := by
  have : (y == x) = false := by simpa using hne
  rw [List.lookup_cons, this]
theorem lookup_cons_eq {ρ : List (Str × PV)} {x : Str} {pv : PV} : ((x, pv) :: ρ).lookup x = some pv := by
  rw [List.lookup_cons, beq_self_eq_true]

theorem and8 {a b c d e f g h G : Prop} (x : a ∧ b ∧ c ∧ d ∧ e ∧ f ∧ g ∧ h) (k : a → b → c → d → e → f → g → h → G) : G := k x.1 x.2.1 x.2.2.1 x.2.2.2.1 x.2.2.2.2.1 x.2.2.2.2.2.1 x.2.2.2.2.2.2.1 x.2.2.2.2.2.2.2
theorem and6 {a b c d e f G : Prop} (x : a ∧ b ∧ c ∧ d ∧ e ∧ f) (k : a → b → c → d → e → f → G) : G := k x.1 x.2.1 x.2.2.1 x.2.2.2.1 x.2.2.2.2.1 x.2.2.2.2.2
theorem fm {α : Type} {p : α → Prop} {a : α} {l : List α} (h : p a) (t : ∀ q ∈ l, p q) : ∀ q ∈ a :: l, p q := List.forall_mem_cons.mpr ⟨h, t⟩
theorem fm0 {α : Type} {p : α → Prop} : ∀ q ∈ ([] : List α), p q := List.forall_mem_nil _
theorem sub_cons {x : Str} {v : PV} {l ρ' : List (Str × PV)} (hx : (l.all fun q => !(q.1 == x)) = true) (k : ∀ q ∈ l, ρ'.lookup q.1 = some q.2) : ∀ q ∈ (x, v) :: l, ((x, v) :: ρ').lookup q.1 = some q.2 :=
  fm lookup_cons_eq fun q hq => by
    have := List.all_eq_true.mp hx q hq
    rw [lookup_cons_ne (by simpa using this)]; exact k q hq

theorem Frm.store {s : Shared} {x : Str} {v : Value} {pv : PV} {E : Value → Shared → Prop} {Q : Unit → Shared → Prop} (F : Frm w A env n h₀ ρ s.heap) (r : Rep s.heap pv v)
    (hk : env.kindOf x = some .local ∨ (env.kindOf x = some .cell ∧ (env.cells.lookup x).isSome = true))
    (h : ∀ h' tk, Frm w A env n h₀ ((x, pv) :: ρ) h' → Still s.heap h' → Keep s.heap h' → Q () { s with heap := h', toks := tk }) {A' : Around} : wpAny (model PP w) A' (storeName env x v) Q E s := by
  obtain ⟨m, hm⟩ := F.ns
  rcases hk with hl | ⟨hc, hi⟩
  · refine wpAny_storeName_local hl hm (fun h' hn' hs' => ?_) (by rw [F.fn]; rfl)
    have st := Still.sameBut hs' (ns_notSeq hm)
    have keep : Ext h₀ h' := fun b o e => hs'.extBut b o (Nat.ne_of_lt (Nat.lt_of_lt_of_le (Heap.lt_size e) F.above)) (F.ext b o e)
    refine h h' _ { F with ext := keep, ns := ⟨_, hn'⟩, cells := fun y c e => ?_, look := fun y pv' e => ?_ } st (Keep.sameNs hs' hm)
    · obtain ⟨a, u, b⟩ := F.cells y c e
      exact ⟨a, u, b.sameBut hs' (ns_cell_ne hm b)⟩
    · by_cases hy : y = x
      · subst hy
        rw [lookup_cons_eq] at e
        cases e
        exact ⟨v, Rep.still st _ _ r, .inl ⟨hl, _, hn', if_pos rfl⟩⟩
      · rw [lookup_cons_ne hy] at e
        obtain ⟨u, a, b⟩ := F.look y pv' e
        refine ⟨u, Rep.still st _ _ a, ?_⟩
        rcases b with ⟨k, m', hm', hv⟩ | ⟨k, c, hc, hv⟩
        · rw [ns_unique hm' hm] at hv
          exact .inl ⟨k, _, hn', by rw [if_neg hy]; exact hv⟩
        · exact .inr ⟨k, c, hc, hv.sameBut hs' (ns_cell_ne hm hv)⟩
  · obtain ⟨c, hcx⟩ := Option.isSome_iff_exists.mp hi
    obtain ⟨hab, v₀, hv₀⟩ := F.cells x c hcx
    refine wpAny_storeName_cell F.fn hc hcx hv₀ (fun h' hv' hs' => ?_)
    have st := Still.sameBut hs' (cell_notSeq hv₀)
    have hcL : env.locals ≠ c := Ne.symm (ns_cell_ne hm hv₀)
    have keep : Ext h₀ h' := fun b o e => hs'.extBut b o (Nat.ne_of_lt (Nat.lt_of_lt_of_le (Heap.lt_size e) hab)) (F.ext b o e)
    refine h h' _ { F with ext := keep, ns := ⟨m, hm.sameBut hs' hcL⟩, cells := fun y d e => ?_, look := fun y pv' e => ?_ } st (Keep.sameCell hs' hv₀)
    · obtain ⟨a, u, b⟩ := F.cells y d e
      by_cases hd : d = c
      · subst hd; exact ⟨a, _, hv'⟩
      · exact ⟨a, u, b.sameBut hs' hd⟩
    · by_cases hy : y = x
      · subst hy
        rw [lookup_cons_eq] at e
        cases e
        exact ⟨v, Rep.still st _ _ r, .inr ⟨.inl hc, c, hcx, hv'⟩⟩
      · rw [lookup_cons_ne hy] at e
        obtain ⟨u, a, b⟩ := F.look y pv' e
        refine ⟨u, Rep.still st _ _ a, ?_⟩
        rcases b with ⟨k, m', hm', hv⟩ | ⟨k, d, hd, hv⟩
        · exact .inl ⟨k, m', hm'.sameBut hs' hcL, hv⟩
        · exact .inr ⟨k, d, hd, hv.sameBut hs' fun q => hy (F.apart y x c (q ▸ hd) hcx)⟩

/-- the block runs to its end and gives r back -/
noncomputable def Body (w : World) (A : Around) (env : Env) (n : Nat) (h₀ : Heap) (ρ : List (Str × PV)) (stmts : List Stmt) (r : PV) : Prop :=
  ∀ s : Shared, Frm w A env n h₀ ρ s.heap → wpAny (model PP w) A (execs stmts env) (fun f s' => ∃ v, f = .ret v ∧ Same s s' ∧ Ext h₀ s'.heap ∧ Rep s'.heap r v) (fun _ _ => False) s

theorem Body.congr {stmts : List Stmt} {r r' : PV} (b : Body w A env n h₀ ρ stmts r) (e : r = r') : Body w A env n h₀ ρ stmts r' := e ▸ b

theorem Body.after {stmts : List Stmt} {r : PV} {s s₁ : Shared} (b : Body w A env n h₀ ρ stmts r) (F : Frm w A env n h₀ ρ s₁.heap) (g : Same s s₁) :
    wpAny (model PP w) A (execs stmts env) (fun f s' => ∃ v, f = .ret v ∧ Same s s' ∧ Ext h₀ s'.heap ∧ Rep s'.heap r v) (fun _ _ => False) s₁ :=
  wpAny_mono (b s₁ F) (fun _ _ ⟨v, a, c, d⟩ => ⟨v, a, g.trans c, d⟩) fun _ _ x => x

theorem B_return {e : PySem.Expr} {pos : Pos} {rest : List Stmt} {r : PV} (he : ∀ h, Frm w A env n h₀ ρ h → EvalsTo w A env h e r) : Body w A env n h₀ ρ (.Return (some e) pos :: rest) r := by
  intro s F
  refine wpAny_execs_cons (wpAny_Return_some ((he _ F).use (.refl _) fun v s' g p => ?_))
  exact ⟨v, rfl, g.same, F.ext.trans g.ext, p⟩

theorem B_assign {x : Str} {e : PySem.Expr} {pos pos' : Pos} {rest : List Stmt} {pv r : PV} (he : ∀ h, Frm w A env n h₀ ρ h → EvalsTo w A env h e pv)
    (hk : env.kindOf x = some .local ∨ (env.kindOf x = some .cell ∧ (env.cells.lookup x).isSome = true))
    (hs : swapsWith e (some (.Name x pos')) pos.line env = pure false)
    (b : Body w A env n h₀ ((x, pv) :: ρ) rest r) : Body w A env n h₀ ρ (.Assign [.Name x pos'] e pos :: rest) r := by
  intro s F
  refine wpAny_execs_cons (wpAny_Assign_Name ((he _ F).use (.refl _) fun v s₁ g₁ p₁ => ?_) hs)
  refine (F.grow g₁.ext).store p₁ hk fun h' tk F' _ _ => ?_
  exact b.after F' (g₁.same.trans ⟨_, _, rfl⟩)

/-- a branch: it gives back, or it falls through and the rest gives back -/
noncomputable def Go (w : World) (A : Around) (env : Env) (n : Nat) (h₀ : Heap) (ρ : List (Str × PV)) (stmts rest : List Stmt) (r : PV) : Prop :=
  ∀ s : Shared, Frm w A env n h₀ ρ s.heap → wpAny (model PP w) A (execs stmts env) (fun f s' => (f = .next ∧ Same s s' ∧ ∃ ρ', Frm w A env n h₀ ρ' s'.heap ∧ Body w A env n h₀ ρ' rest r) ∨
    ∃ v, f = .ret v ∧ Same s s' ∧ Ext h₀ s'.heap ∧ Rep s'.heap r v) (fun _ _ => False) s
theorem Go.ret {stmts rest : List Stmt} {r : PV} (b : Body w A env n h₀ ρ stmts r) : Go w A env n h₀ ρ stmts rest r := fun s F => wpAny_mono (b s F) (fun _ _ x => .inr x) fun _ _ x => x
theorem Go.nil {rest : List Stmt} {r : PV} (b : Body w A env n h₀ ρ rest r) : Go w A env n h₀ ρ [] rest r := fun s F => wpAny_execs_nil (.inl ⟨rfl, .refl s, ρ, F, b⟩)
theorem Go.same {stmts rest : List Stmt} {r : PV} {s s₁ : Shared} (b : Go w A env n h₀ ρ stmts rest r) (F : Frm w A env n h₀ ρ s₁.heap) (g : Same s s₁) :
    wpAny (model PP w) A (execs stmts env) (fun f s' => (f = .next ∧ Same s s' ∧ ∃ ρ', Frm w A env n h₀ ρ' s'.heap ∧ Body w A env n h₀ ρ' rest r) ∨
    ∃ v, f = .ret v ∧ Same s s' ∧ Ext h₀ s'.heap ∧ Rep s'.heap r v) (fun _ _ => False) s₁ :=
  wpAny_mono (b s₁ F) (fun _ _ x => by
    rcases x with ⟨a, b, c⟩ | ⟨v, a, b, c⟩
    · exact .inl ⟨a, g.trans b, c⟩
    · exact .inr ⟨v, a, g.trans b, c⟩) fun _ _ x => x
theorem Go.assign {x : Str} {e : PySem.Expr} {pos pos' : Pos} {more rest : List Stmt} {pv r : PV} (he : ∀ h, Frm w A env n h₀ ρ h → EvalsTo w A env h e pv)
    (hk : env.kindOf x = some .local ∨ (env.kindOf x = some .cell ∧ (env.cells.lookup x).isSome = true))
    (hs : swapsWith e (some (.Name x pos')) pos.line env = pure false)
    (b : Go w A env n h₀ ((x, pv) :: ρ) more rest r) : Go w A env n h₀ ρ (.Assign [.Name x pos'] e pos :: more) rest r := by
  intro s F
  refine wpAny_execs_cons (wpAny_Assign_Name ((he _ F).use (.refl _) fun v s₁ g₁ p₁ => ?_) hs)
  refine (F.grow g₁.ext).store p₁ hk fun h' tk F' _ _ => ?_
  exact b.same F' (g₁.same.trans ⟨_, _, rfl⟩)
theorem B_if {t : PySem.Expr} {body orelse rest : List Stmt} {pos : Pos} {b : Bool} {r : PV} (ht : ∀ h, Frm w A env n h₀ ρ h → TestTo w A env h t b)
    (h1 : b = true → Go w A env n h₀ ρ body rest r) (h0 : b = false → Go w A env n h₀ ρ orelse rest r) : Body w A env n h₀ ρ (.If t body orelse pos :: rest) r := by
  intro s F
  refine wpAny_execs_cons (wpAny_If ((ht _ F).use (.refl _) fun v s₁ g₁ p₁ => ?_))
  have tail : ∀ {stmts : List Stmt}, Go w A env n h₀ ρ stmts rest r → wpAny (model PP w) A (execs stmts env) (fun f s' => match f with
      | .next => wpAny (model PP w) A (execs rest env) (fun f s' => ∃ v, f = .ret v ∧ Same s s' ∧ Ext h₀ s'.heap ∧ Rep s'.heap r v) (fun _ _ => False) s'
      | f => ∃ v, f = .ret v ∧ Same s s' ∧ Ext h₀ s'.heap ∧ Rep s'.heap r v) (fun _ _ => False) s₁ := fun g =>
    wpAny_mono (g.same (F.grow g₁.ext) g₁.same) (fun f s' x => by
      rcases x with ⟨rfl, a, ρ', F', b'⟩ | ⟨v, rfl, x⟩
      · exact b'.after F' a
      · exact ⟨v, rfl, x⟩) fun _ _ x => x
  subst p₁
  cases v with
  | true => exact tail (h1 rfl)
  | false => exact tail (h0 rfl)
theorem Go.iff {t : PySem.Expr} {body orelse rest : List Stmt} {pos : Pos} {b : Bool} {r : PV} (ht : ∀ h, Frm w A env n h₀ ρ h → TestTo w A env h t b)
    (h1 : b = true → Go w A env n h₀ ρ body rest r) (h0 : b = false → Go w A env n h₀ ρ orelse rest r) : Go w A env n h₀ ρ [.If t body orelse pos] rest r := by
  intro s F
  refine wpAny_execs_cons (wpAny_If ((ht _ F).use (.refl _) fun v s₁ g₁ p₁ => ?_))
  have tail : ∀ {stmts : List Stmt}, Go w A env n h₀ ρ stmts rest r → wpAny (model PP w) A (execs stmts env) (fun f s' => match f with
      | .next => wpAny (model PP w) A (execs [] env) (fun f s' => (f = .next ∧ Same s s' ∧ ∃ ρ', Frm w A env n h₀ ρ' s'.heap ∧ Body w A env n h₀ ρ' rest r) ∨
    ∃ v, f = .ret v ∧ Same s s' ∧ Ext h₀ s'.heap ∧ Rep s'.heap r v) (fun _ _ => False) s'
      | f => (f = .next ∧ Same s s' ∧ ∃ ρ', Frm w A env n h₀ ρ' s'.heap ∧ Body w A env n h₀ ρ' rest r) ∨
    ∃ v, f = .ret v ∧ Same s s' ∧ Ext h₀ s'.heap ∧ Rep s'.heap r v) (fun _ _ => False) s₁ := fun g =>
    wpAny_mono (g.same (F.grow g₁.ext) g₁.same) (fun f s' x => by
      rcases x with ⟨rfl, x⟩ | ⟨v, rfl, x⟩
      · exact wpAny_execs_nil (.inl ⟨rfl, x⟩)
      · exact .inr ⟨v, rfl, x⟩) fun _ _ x => x
  subst p₁
  cases v with
  | true => exact tail (h1 rfl)
  | false => exact tail (h0 rfl)

theorem repsLookup {h : Heap} : ∀ {names : List Str} {pvs : List PV} {vs : List Value}, Reps h pvs vs → ∀ (x : Str) (pv : PV), (names.zip pvs).lookup x = some pv → ∃ v, Rep h pv v ∧ (names.zip vs).lookup x = some v
  | [], _, _, _, x, pv, e => by simp at e
  | y :: names, [], _, _, x, pv, e => by simp at e
  | y :: names, p :: pvs, vs, r, x, pv, e => by
    simp only [Reps] at r
    obtain ⟨v, r', rfl, r1, r2⟩ := r
    simp only [List.zip_cons_cons, List.lookup_cons] at e ⊢
    cases hx : x == y with
    | true => rw [hx] at e; cases e; exact ⟨v, r1, rfl⟩
    | false => rw [hx] at e; exact repsLookup r2 x pv e

theorem lookup_rev : ∀ {names : List Str} {vs : List Value}, names.Nodup → ∀ {x : Str}, (names.zip vs).reverse.lookup x = (names.zip vs).lookup x
  | [], vs, _, x => by simp
  | y :: names, [], _, x => by simp
  | y :: names, v :: vs, h, x => by
    obtain ⟨h1, h2⟩ := List.nodup_cons.mp h
    rw [List.zip_cons_cons, List.reverse_cons, List.lookup_append, lookup_rev h2, List.lookup_cons, List.lookup_cons, List.lookup_nil]
    cases hx : x == y with
    | false => simp
    | true =>
      have hn : (names.zip vs).lookup x = none := by
        cases hq : (names.zip vs).lookup x with
        | none => rfl
        | some u => exact absurd (List.of_mem_zip (mem_of_lookup hq)).1 (by rw [eq_of_beq hx]; exact h1)
      rw [hn]; rfl
/-- a call of a def of the text: its body says what it gives back -/
theorem Call_def {name qual : Str} {params : Arguments} {body : List Stmt} {scope : Scope} {dV kV doc pm cdv ct oc : Value} {an od : Option Addr} {osl : Array (Option Value)} {f : Addr} {pvs : List PV} {r : PV} {names : List Str}
    (g : Glo w h) (rm : Rm A n) (hn : n ≤ 99)
    (ho : (kK w.params).lookup f = some ⟨oc, od, .func (fnOf name qual params body scope dV kV doc pm an cdv ct), osl⟩) (hcd : codeIn (kK w.params) cdv qual = true)
    (hbind : ∀ vs : List Value, vs.length = pvs.length → bindArgs (fnOf name qual params body scope dV kV doc pm an cdv ct) ⟨vs, []⟩ = pure (names.zip vs)) 
    (hloc : (names.all fun x => decide (scope.names.lookup x = some .local)) = true)
    (hco : scope.isCoroutine = false) (hgen : scope.isGenerator = false) (hk : scope.kind = .function) (hcell : (scope.names.all fun x => x.2 != .cell) = true)
    (hrev : names.Nodup)
    (b : ∀ h₀ L, Ext h h₀ → Body w (A.deeper (envOf qual scope L f cdv)) (envOf qual scope L f cdv) (n + 1) h₀ (names.zip pvs) body r) : CallTo w A h (.ref f) pvs r := by
  intro h' k vs rs s e
  have hs : Ext h s.heap := k.trans e
  have rs' := Reps.mono e _ _ rs
  have G := g.mono hs
  refine wpAny_call ?_
  refine codeAny_call_def (fd := fnOf name qual params body scope dV kV doc pm an cdv ct) (body := body) (binds := names.zip vs) (rm.room (by (walk_at "my om"))) (G.X _ _ ho) rfl G.L (codeRec_of G.X hcd) rfl (BindsTo.of_eq (hbind vs rs.length)) ?_ ?_ (fun h₁ hns hk₁ => ?_) hco hgen hk
  · intro x hx
    have := List.all_eq_true.mp hcell x hx
    simpa using this
  · intro x hx
    have := List.all_eq_true.mp hloc x.1 (List.of_mem_zip hx).1
    exact of_decide_eq_true this
  · have F : Frm w (A.deeper (envOf qual scope s.heap.objs.size f cdv)) (envOf qual scope s.heap.objs.size f cdv) (n + 1) s.heap (names.zip pvs) h₁ :=
      { rm := rm.deeper _, hn := by (walk_at "my om"), fn := hk, eg := rfl, eb := rfl, glo0 := G, ext := hk₁, above := Nat.le_refl _, ns := ⟨_, hns⟩,
        cells := fun x c e => (by cases e), apart := fun x y c e => (by cases e),
        look := fun x pv hx => by
          obtain ⟨v, r1, r2⟩ := repsLookup rs' x pv hx
          refine ⟨v, Rep.mono hk₁ _ _ r1, .inl ⟨?_, _, hns, ?_⟩⟩
          · have hm := mem_of_lookup r2
            exact of_decide_eq_true (List.all_eq_true.mp hloc x (List.of_mem_zip hm).1)
          · rw [lookup_rev hrev]; exact r2 }
    refine wpAny_mono (b s.heap s.heap.objs.size hs { s with heap := h₁, toks := s.toks + (names.zip vs).length } F) (fun f s' x => ?_) fun _ _ x => x.elim
    obtain ⟨v, rfl, g1, g2, g3⟩ := x
    show Grows s s' ∧ Rep s'.heap r v
    refine ⟨?_, g3⟩
    obtain ⟨hh, tk, rfl⟩ := g1
    exact ⟨hh, tk, rfl, g2⟩
end
end Mine

namespace Mine
section
variable {w : World} {A : Around} {env : Env} {n : Nat} {h₀ h : Heap} {ρ : List (Str × PV)}

theorem E_List {es : List PySem.Expr} {pos : Pos} {pvs : List PV} (ha : ArgsTo w A env h pos es pvs) (hsz : pvs.length ≤ sizeLine) : EvalsTo w A env h (.List es pos) (.list pvs) := by
  intro s e
  refine List_ (ha.use e fun vs s₁ g₁ r₁ => ?_)
  have hl : vs.length = pvs.length := r₁.length
  refine wpAny_newObj_type ?_ (by show vs.toArray.size ≤ sizeLine; rw [List.size_toArray, hl]; exact hsz)
  have k := Ext.push s₁.heap { cls := .type "list", data := .seq vs.toArray }
  exact ⟨g₁.trans (.heap' k), .mkList ⟨_, Heap.get?_push_size _ rfl, rfl, _, rfl⟩ (Reps.mono k _ _ r₁)⟩
theorem E_Tuple {es : List PySem.Expr} {c : Nat} {pos : Pos} {pvs : List PV} (ha : ArgsTo w A env h pos es pvs) (hsz : pvs.length ≤ sizeLine) : EvalsTo w A env h (.Tuple es c pos) (.tuple pvs) := by
  intro s e
  refine Tuple_ (ha.use e fun vs s₁ g₁ r₁ => ?_)
  have hl : vs.length = pvs.length := r₁.length
  refine wpAny_newObj_type ?_ (by show vs.toArray.size ≤ sizeLine; rw [List.size_toArray, hl]; exact hsz)
  have k := Ext.push s₁.heap { cls := .type "tuple", data := .seq vs.toArray }
  exact ⟨g₁.trans (.heap' k), .mkTuple ⟨_, Heap.get?_push_size _ rfl, rfl, _, rfl⟩ (Reps.mono k _ _ r₁)⟩

noncomputable def Storable (env : Env) (x : Str) : Prop := env.kindOf x = some .local ∨ (env.kindOf x = some .cell ∧ (env.cells.lookup x).isSome = true)

theorem storeAll {E : Value → Shared → Prop} {A' : Around} : ∀ (l : List (Str × PV)) (fs : List (Value → Sem Unit)) (vs : List Value) (ρ : List (Str × PV)) (s : Shared) (Q : Unit → Shared → Prop),
    fs.length = l.length → (∀ (i : Nat) (f : Value → Sem Unit) (q : Str × PV), fs[i]? = some f → l[i]? = some q → ∀ (M : Model) (v : Value) (s : Shared) (Q : Unit → Shared → Prop), wpAny M A' (storeName env q.1 v) Q E s → wpAny M A' (f v) Q E s) →
    (∀ q ∈ l, Storable env q.1) → Reps s.heap (l.map (·.2)) vs → Frm w A env n h₀ ρ s.heap →
    (∀ s', Same s s' → Still s.heap s'.heap → Keep s.heap s'.heap → Frm w A env n h₀ (l.reverse ++ ρ) s'.heap → Q () s') → wpAny (model PP w) A' (assignInOrder fs vs) Q E s
  | [], fs, vs, ρ, s, Q, hl, hf, hst, hr, F, hQ => by
    have : fs = [] := List.eq_nil_of_length_eq_zero hl
    subst this
    exact wpAny_pure (hQ s (.refl s) (.refl _) (.refl _) F)
  | (x, pv) :: l, [], vs, ρ, s, Q, hl, hf, hst, hr, F, hQ => by simp at hl
  | (x, pv) :: l, f :: fs, vs, ρ, s, Q, hl, hf, hst, hr, F, hQ => by
    simp only [List.map_cons, Reps] at hr
    obtain ⟨v, r, rfl, r1, r2⟩ := hr
    show wpAny _ _ (holding r (f v) >>= fun _ => assignInOrder fs r) Q E s
    refine wpAny_bind (wpAny_holding (hf 0 f (x, pv) rfl rfl _ _ _ _ ?_))
    refine F.store r1 (hst (x, pv) List.mem_cons_self) fun h' tk F' st kp => ?_
    refine storeAll l fs r _ _ Q (by simpa using hl) (fun i f q h1 h2 => hf (i + 1) f q (by simpa using h1) (by simpa using h2)) (fun q hq => hst q (List.mem_cons_of_mem _ hq)) (Reps.still st _ _ r2) F' fun s' g st' kp' F'' => ?_
    refine hQ s' (Same.trans ⟨_, _, rfl⟩ g) (st.trans st') (kp.trans kp') ?_
    rw [List.reverse_cons, List.append_assoc]; exact F''

/-- a value that can be taken apart into these -/
noncomputable def Seqs (pv : PV) (pvs : List PV) : Prop := pv = .list pvs ∨ pv = .tuple pvs

theorem unpackItems_pv {s : Shared} {E : Value → Shared → Prop} {Q : List Value → Shared → Prop} {pv : PV} {pvs : List PV} {v : Value} (hA : A.handled = none) (hq : Seqs pv pvs) (r : Rep s.heap pv v)
    (h : ∀ vs s', Grows s s' → Reps s'.heap pvs vs → Q vs s') {k : Nat} (hk : k = pvs.length) : wpAny (model PP w) A (unpackItems v k none) Q E s := by
  subst hk
  have old : ∀ {h' : Heap}, Heap.ExtBut s.heap.objs.size s.heap h' → Ext s.heap h' := fun x b o e => x b o (Nat.ne_of_lt (Heap.lt_size e)) e
  rcases hq with rfl | rfl
  · obtain ⟨a, vs, rfl, l, rs⟩ := rep_list r
    rw [show pvs.length = vs.toArray.size by rw [List.size_toArray, rs.length]]
    exact kun_itemsOf hA l fun h' x => h _ _ (.heap' (old x)) (Reps.mono (old x) _ _ rs)
  · obtain ⟨a, vs, rfl, l, rs⟩ := rep_tuple r
    rw [show pvs.length = vs.toArray.size by rw [List.size_toArray, rs.length]]
    exact wpAny_unpackItems_tuple hA l fun h' x => h _ _ (.heap' (old x)) (Reps.mono (old x) _ _ rs)

theorem assignEach_names : ∀ (l : List (Str × Pos)), (assignEach (l.map fun q => PySem.Expr.Name q.1 q.2) env) = l.map fun q => (false, assign (.Name q.1 q.2) env)
  | [] => rfl
  | q :: l => by
    show (false, assign (.Name q.1 q.2) env) :: assignEach (l.map _) env = _
    rw [assignEach_names l]; rfl

theorem step_unpack {elts : List PySem.Expr} {k : Nat} {tpos pos : Pos} {e : PySem.Expr} {l : List (Str × Pos)} {pv : PV} {pvs : List PV} {s : Shared} {Q : Flow → Shared → Prop} {E : Value → Shared → Prop}
    (F : Frm w A env n h₀ ρ s.heap) (he : EvalsTo w A env s.heap e pv) (hq : Seqs pv pvs)
    (helts : elts = l.map fun q => PySem.Expr.Name q.1 q.2) (hlen : l.length = pvs.length) (hst : ∀ q ∈ l, Storable env q.1)
    (hs : swapsWithSole [.Tuple elts k tpos] e pos.line env = pure false) (hw : swappedStores [.Tuple elts k tpos] e env = pure none)
    (h : ∀ s', Same s s' → Keep s.heap s'.heap → Frm w A env n h₀ (((l.map (·.1)).zip pvs).reverse ++ ρ) s'.heap → Q .next s') : wpAny (model PP w) A (exec (.Assign [.Tuple elts k tpos] e pos) env) Q E s := by
  refine Assign_Tuple (he.use (.refl _) fun v s₁ g₁ r₁ => ?_) hs hw
  rw [arm_assign_Tuple]
  refine wpAny_bind (wpAny_standAt ?_)
  subst helts
  unfold unpack
  rw [assignEach_names, List.length_map, show (List.map (fun q : Str × Pos => (false, assign (.Name q.1 q.2) env)) l).findIdx? (·.1) = none by rw [List.findIdx?_map]; simp]
  refine wpAny_bind (wpAny_holding (unpackItems_pv F.rm.h hq r₁ (fun vs s₂ g₂ r₂ => ?_) hlen))
  have F₂ := F.grow (g₁.trans g₂).ext
  have hz : ((l.map (·.1)).zip pvs).map (·.2) = pvs := by rw [List.map_snd_zip (by simp [hlen])]
  refine storeAll ((l.map (·.1)).zip pvs) _ vs ρ s₂ _ (by simp [hlen]) (fun i f q h1 h2 M v s Q hh => ?_) (fun q hq => ?_) (by rw [hz]; exact r₂) F₂ fun s' g _ kp F' => h s' ((g₁.trans g₂).same.trans g) ((g₁.trans g₂).ext.keep.trans kp) F'
  · rw [List.map_map, List.getElem?_map] at h1
    rw [List.getElem?_zip_eq_some, List.getElem?_map] at h2
    cases hi : l[i]? with
    | none => rw [hi] at h1; cases h1
    | some u =>
      rw [hi] at h1 h2
      cases h1
      have e1 : u.1 = q.1 := by simpa using h2.1
      rw [← e1] at hh
      show wpAny M A (assign (.Name u.1 u.2) env v) Q E s
      show wpAny M A (standAt u.2 >>= fun _ => bindName env u.1 v) Q E s
      exact wpAny_bind (wpAny_standAt (wpAny_bindName hh))
  · have := (List.of_mem_zip hq).1
    obtain ⟨u, hu, e1⟩ := List.mem_map.mp this
    rw [← e1]; exact hst u hu

theorem B_unpack {elts : List PySem.Expr} {k : Nat} {tpos pos : Pos} {e : PySem.Expr} {l : List (Str × Pos)} {pv r : PV} {pvs : List PV} {rest : List Stmt}
    (he : ∀ h, Frm w A env n h₀ ρ h → EvalsTo w A env h e pv) (hq : Seqs pv pvs)
    (helts : elts = l.map fun q => PySem.Expr.Name q.1 q.2) (hlen : l.length = pvs.length) (hst : ∀ q ∈ l, Storable env q.1)
    (hs : swapsWithSole [.Tuple elts k tpos] e pos.line env = pure false) (hw : swappedStores [.Tuple elts k tpos] e env = pure none)
    (b : Body w A env n h₀ (((l.map (·.1)).zip pvs).reverse ++ ρ) rest r) : Body w A env n h₀ ρ (.Assign [.Tuple elts k tpos] e pos :: rest) r := by
  intro s F
  refine wpAny_execs_cons (step_unpack F (he _ F) hq helts hlen hst hs hw fun s' g _ F' => ?_)
  exact b.after F' g
theorem Go.unpack {elts : List PySem.Expr} {k : Nat} {tpos pos : Pos} {e : PySem.Expr} {l : List (Str × Pos)} {pv r : PV} {pvs : List PV} {more rest : List Stmt}
    (he : ∀ h, Frm w A env n h₀ ρ h → EvalsTo w A env h e pv) (hq : Seqs pv pvs)
    (helts : elts = l.map fun q => PySem.Expr.Name q.1 q.2) (hlen : l.length = pvs.length) (hst : ∀ q ∈ l, Storable env q.1)
    (hs : swapsWithSole [.Tuple elts k tpos] e pos.line env = pure false) (hw : swappedStores [.Tuple elts k tpos] e env = pure none)
    (b : Go w A env n h₀ (((l.map (·.1)).zip pvs).reverse ++ ρ) more rest r) : Go w A env n h₀ ρ (.Assign [.Tuple elts k tpos] e pos :: more) rest r := by
  intro s F
  refine wpAny_execs_cons (step_unpack F (he _ F) hq helts hlen hst hs hw fun s' g _ F' => ?_)
  exact b.same F' g

theorem step_swapped {elts : List PySem.Expr} {k : Nat} {tpos pos : Pos} {e : PySem.Expr} {names : List Str} {pv : PV} {pvs : List PV} {s : Shared} {Q : Flow → Shared → Prop} {E : Value → Shared → Prop}
    (F : Frm w A env n h₀ ρ s.heap) (he : EvalsTo w A env s.heap e pv) (hq : Seqs pv pvs) (hlen : names.length = pvs.length) (hst : ∀ q ∈ names, Storable env q)
    (hs : swapsWithSole [.Tuple elts k tpos] e pos.line env = pure false) (hw : swappedStores [.Tuple elts k tpos] e env = pure (some names))
    (h : ∀ s', Same s s' → Keep s.heap s'.heap → Frm w A env n h₀ (names.zip pvs ++ ρ) s'.heap → Q .next s') : wpAny (model PP w) A (exec (.Assign [.Tuple elts k tpos] e pos) env) Q E s := by
  refine Assign_Tuple_swapped (he.use (.refl _) fun v s₁ g₁ r₁ => ?_) hs hw
  refine unpackItems_pv F.rm.h hq r₁ (fun vs s₂ g₂ r₂ => ?_) hlen
  have F₂ := F.grow (g₁.trans g₂).ext
  have hz : ((names.zip pvs).reverse).map (·.2) = pvs.reverse := by rw [List.map_reverse, List.map_snd_zip (by simp [hlen])]
  have rr : Reps s₂.heap pvs.reverse vs.reverse := by
    refine Reps.of_get (by simp [r₂.length]) fun i x v h1 h2 => ?_
    have hi : i < pvs.length := by
      rcases Nat.lt_or_ge i pvs.length with q | q
      · exact q
      · rw [List.getElem?_eq_none (by simpa using q)] at h1; cases h1
    rw [List.getElem?_reverse (by exact hi)] at h1
    rw [List.getElem?_reverse (by rw [r₂.length]; exact hi), r₂.length] at h2
    obtain ⟨u, e1, e2⟩ := r₂.get _ x h1
    rw [h2] at e1; cases e1; exact e2
  refine storeAll (names.zip pvs).reverse _ vs.reverse ρ s₂ _ (by simp [hlen]) (fun i f q h1 h2 M v s Q hh => ?_) (fun q hq => ?_) (by rw [hz]; exact rr) F₂ fun s' g _ kp F' => h s' ((g₁.trans g₂).same.trans g) ((g₁.trans g₂).ext.keep.trans kp) (by rwa [List.reverse_reverse] at F')
  · have hi : i < names.length := by
      rcases Nat.lt_or_ge i names.length with q | q
      · exact q
      · rw [List.getElem?_eq_none (by simpa using q)] at h1; cases h1
    rw [List.getElem?_map, List.getElem?_reverse hi] at h1
    rw [List.getElem?_reverse (by simp [← hlen, hi])] at h2
    rw [List.getElem?_zip_eq_some] at h2
    obtain ⟨h2, _⟩ := h2
    simp only [List.length_zip, ← hlen, Nat.min_self] at h2
    rw [h2] at h1
    cases h1
    exact wpAny_bindName hh
  · have := (List.of_mem_zip (List.mem_reverse.mp hq)).1
    exact hst _ this
theorem B_swapped {elts : List PySem.Expr} {k : Nat} {tpos pos : Pos} {e : PySem.Expr} {names : List Str} {pv r : PV} {pvs : List PV} {rest : List Stmt}
    (he : ∀ h, Frm w A env n h₀ ρ h → EvalsTo w A env h e pv) (hq : Seqs pv pvs) (hlen : names.length = pvs.length) (hst : ∀ q ∈ names, Storable env q)
    (hs : swapsWithSole [.Tuple elts k tpos] e pos.line env = pure false) (hw : swappedStores [.Tuple elts k tpos] e env = pure (some names))
    (b : Body w A env n h₀ (names.zip pvs ++ ρ) rest r) : Body w A env n h₀ ρ (.Assign [.Tuple elts k tpos] e pos :: rest) r := by
  intro s F
  refine wpAny_execs_cons (step_swapped F (he _ F) hq hlen hst hs hw fun s' g _ F' => ?_)
  exact b.after F' g
end
end Mine

namespace Mine
theorem no_len (w : World) : nsIn (kK w.params) mainGlobals "len" = some none := by kernel_rfl
theorem no_list (w : World) : nsIn (kK w.params) mainGlobals "list" = some none := by kernel_rfl
theorem no_range (w : World) : nsIn (kK w.params) mainGlobals "range" = some none := by kernel_rfl
theorem no_sum (w : World) : nsIn (kK w.params) mainGlobals "sum" = some none := by kernel_rfl
theorem no_sorted (w : World) : nsIn (kK w.params) mainGlobals "sorted" = some none := by kernel_rfl
theorem no_min (w : World) : nsIn (kK w.params) mainGlobals "min" = some none := by kernel_rfl
theorem no_max (w : World) : nsIn (kK w.params) mainGlobals "max" = some none := by kernel_rfl
theorem no_str (w : World) : nsIn (kK w.params) mainGlobals "str" = some none := by kernel_rfl
theorem no_round (w : World) : nsIn (kK w.params) mainGlobals "round" = some none := by kernel_rfl
theorem no_int (w : World) : nsIn (kK w.params) mainGlobals "int" = some none := by kernel_rfl
theorem is_insort_right (w : World) : nsIn (kK w.params) mainGlobals "insort_right" = some (some (.ref 23)) := by kernel_rfl
theorem is_bisect_right (w : World) : nsIn (kK w.params) mainGlobals "bisect_right" = some (some (.ref 32)) := by kernel_rfl
theorem is_bisect_left (w : World) : nsIn (kK w.params) mainGlobals "bisect_left" = some (some (.ref 41)) := by kernel_rfl
theorem is_rgb_to_hls (w : World) : nsIn (kK w.params) mainGlobals "rgb_to_hls" = some (some (.ref 48)) := by kernel_rfl
theorem is_hls_to_rgb (w : World) : nsIn (kK w.params) mainGlobals "hls_to_rgb" = some (some (.ref 55)) := by kernel_rfl
theorem is_v (w : World) : nsIn (kK w.params) mainGlobals "_v" = some (some (.ref 62)) := by kernel_rfl
theorem is_rgb_to_hsv (w : World) : nsIn (kK w.params) mainGlobals "rgb_to_hsv" = some (some (.ref 69)) := by kernel_rfl
theorem is_hsv_to_rgb (w : World) : nsIn (kK w.params) mainGlobals "hsv_to_rgb" = some (some (.ref 76)) := by kernel_rfl
theorem is_ellipsis (w : World) : nsIn (kK w.params) mainGlobals "_ellipsis_match" = some (some (.ref 83)) := by kernel_rfl
theorem is_told (w : World) : nsIn (kK w.params) mainGlobals "_law_told_sign" = some (some (.ref 90)) := by kernel_rfl
theorem is_due (w : World) : nsIn (kK w.params) mainGlobals "_law_due_sign" = some (some (.ref 95)) := by kernel_rfl
theorem is_point (w : World) : nsIn (kK w.params) mainGlobals "_law_point" = some (some (.ref 102)) := by kernel_rfl
theorem is_pattern (w : World) : nsIn (kK w.params) mainGlobals "_law_pattern" = some (some (.ref 109)) := by kernel_rfl
theorem is_ends (w : World) : nsIn (kK w.params) mainGlobals "_law_ends" = some (some (.ref 114)) := by kernel_rfl
theorem is_law (w : World) : nsIn (kK w.params) mainGlobals "law" = some (some (.ref 119)) := by kernel_rfl
theorem is_13 (w : World) : nsIn (kK w.params) mainGlobals "ONE_THIRD" = some (some (.float 4599676419421066581 234)) := by kernel_rfl
theorem is_16 (w : World) : nsIn (kK w.params) mainGlobals "ONE_SIXTH" = some (some (.float 4595172819793696085 238)) := by kernel_rfl
theorem is_23 (w : World) : nsIn (kK w.params) mainGlobals "TWO_THIRD" = some (some (.float 4604180019048437077 242)) := by kernel_rfl
theorem is_mark (w : World) : nsIn (kK w.params) mainGlobals "ELLIPSIS_MARKER" = some (some (.str "..." 317)) := by kernel_rfl
theorem kp_23 (w : World) : keepIn (kK w.params) (.ref 23) = true := by kernel_rfl
theorem kp_32 (w : World) : keepIn (kK w.params) (.ref 32) = true := by kernel_rfl
theorem kp_41 (w : World) : keepIn (kK w.params) (.ref 41) = true := by kernel_rfl
theorem kp_48 (w : World) : keepIn (kK w.params) (.ref 48) = true := by kernel_rfl
theorem kp_55 (w : World) : keepIn (kK w.params) (.ref 55) = true := by kernel_rfl
theorem kp_62 (w : World) : keepIn (kK w.params) (.ref 62) = true := by kernel_rfl
theorem kp_69 (w : World) : keepIn (kK w.params) (.ref 69) = true := by kernel_rfl
theorem kp_76 (w : World) : keepIn (kK w.params) (.ref 76) = true := by kernel_rfl
theorem kp_83 (w : World) : keepIn (kK w.params) (.ref 83) = true := by kernel_rfl
theorem kp_90 (w : World) : keepIn (kK w.params) (.ref 90) = true := by kernel_rfl
theorem kp_95 (w : World) : keepIn (kK w.params) (.ref 95) = true := by kernel_rfl
theorem kp_102 (w : World) : keepIn (kK w.params) (.ref 102) = true := by kernel_rfl
theorem kp_109 (w : World) : keepIn (kK w.params) (.ref 109) = true := by kernel_rfl
theorem kp_114 (w : World) : keepIn (kK w.params) (.ref 114) = true := by kernel_rfl
theorem bt_len : bootBuiltins "len" = some (.builtin "len") := by decide +kernel
theorem bt_list : bootBuiltins "list" = some (.type "list") := by decide +kernel
theorem bt_range : bootBuiltins "range" = some (.type "range") := by decide +kernel
theorem bt_sum : bootBuiltins "sum" = some (.builtin "sum") := by decide +kernel
theorem bt_sorted : bootBuiltins "sorted" = some (.builtin "sorted") := by decide +kernel
theorem bt_min : bootBuiltins "min" = some (.builtin "min") := by decide +kernel
theorem bt_max : bootBuiltins "max" = some (.builtin "max") := by decide +kernel
theorem bt_str : bootBuiltins "str" = some (.type "str") := by decide +kernel
theorem bt_round : bootBuiltins "round" = some (.builtin "round") := by decide +kernel
theorem bt_int : bootBuiltins "int" = some (.type "int") := by decide +kernel

section
variable {w : World} {A : Around} {env : Env} {n : Nat} {h₀ h : Heap} {ρ : List (Str × PV)}
/-- a call of a built-in by its name -/
theorem E_CallB {x : Str} {p pos : Pos} {es : List PySem.Expr} {f : Value} {pvs : List PV} {r : PV} (S : Sit w A env n ρ h) (hk : env.kindOf x = some .globalImplicit) (hx : nsIn (kK w.params) mainGlobals x = some none)
    (hb : bootBuiltins x = some f) (hf : (∃ id, f = .builtin id) ∨ ∃ id, f = .type id) (hne : x ≠ ("__name__" : Str)) (hdb : (x == ("__debug__" : Str)) = false) (hargs : ArgsTo w A env h pos es pvs) (hc : CallTo w A h f pvs r)
    (hn : (es.all fun e => !isStarred e) = true) (hplain : (backTo pos (starEach es env)).any (·.1) = false) : EvalsTo w A env h (.Call (.Name x p) es [] pos) r := by
  refine E_Call (E_Blt S hk hx hb hne hdb) ?_ hargs hc ?_ hplain rfl
  · rcases hf with ⟨id, rfl⟩ | ⟨id, rfl⟩
    · exact Kept.builtin
    · exact Kept.type
  · intro e he
    simpa using List.all_eq_true.mp hn e he
/-- a call of a def of the text by its name -/
theorem E_CallF {x : Str} {p pos : Pos} {es : List PySem.Expr} {f : Value} {pvs : List PV} {r : PV} (S : Sit w A env n ρ h) (hk : env.kindOf x = some .globalImplicit) (hx : nsIn (kK w.params) mainGlobals x = some (some f))
    (hf : keepIn (kK w.params) f = true) (hdb : (x == ("__debug__" : Str)) = false) (hargs : ArgsTo w A env h pos es pvs) (hc : CallTo w A h f pvs r)
    (hn : (es.all fun e => !isStarred e) = true) (hplain : (backTo pos (starEach es env)).any (·.1) = false) : EvalsTo w A env h (.Call (.Name x p) es [] pos) r := by
  refine E_Call (E_Glob S hk hx hdb) (Kept.ofK S.glo hf) hargs hc ?_ hplain rfl
  intro e he
  simpa using List.all_eq_true.mp hn e he
theorem E_GlobVal {x : Str} {p : Pos} {v : Value} {pv : PV} (S : Sit w A env n ρ h) (hk : env.kindOf x = some .globalImplicit) (hx : nsIn (kK w.params) mainGlobals x = some (some v)) (hdb : (x == ("__debug__" : Str)) = false)
    (hr : ∀ h', Rep h' pv v) : EvalsTo w A env h (.Name x p) pv := Ev.imp (E_Glob S hk hx hdb) fun u h' _ e => by subst e; exact hr h'
end
theorem lenS {P : List Value → Prop} {n : Nat} (h : ∀ a vs, vs.length = n → P (a :: vs)) : ∀ vs : List Value, vs.length = n + 1 → P vs := fun vs e => by
  cases vs with
  | nil => cases e
  | cons a r => exact h a r (Nat.succ.inj e)
theorem len0 {P : List Value → Prop} (h : P []) : ∀ vs : List Value, vs.length = 0 → P vs := fun vs e => by rw [List.eq_nil_of_length_eq_zero e]; exact h
theorem len1 {P : List Value → Prop} (h : ∀ a, P [a]) : ∀ vs : List Value, vs.length = 1 → P vs := lenS fun a => len0 (P := fun r => P (a :: r)) (h a)
theorem len2 {P : List Value → Prop} (h : ∀ a b, P [a, b]) : ∀ vs : List Value, vs.length = 2 → P vs := lenS fun a => len1 (P := fun r => P (a :: r)) (h a)
theorem len3 {P : List Value → Prop} (h : ∀ a b c, P [a, b, c]) : ∀ vs : List Value, vs.length = 3 → P vs := lenS fun a => len2 (P := fun r => P (a :: r)) (h a)
theorem len4 {P : List Value → Prop} (h : ∀ a b c d, P [a, b, c, d]) : ∀ vs : List Value, vs.length = 4 → P vs := lenS fun a => len3 (P := fun r => P (a :: r)) (h a)
end Mine

namespace Mine
set_option hygiene false
local macro_rules | `(tactic| walk_at "my r") => `(tactic| with_unfolding_all exact rfl)
local macro_rules | `(tactic| walk_at "my sit") => `(tactic| first | assumption | exact Frm.sit (by assumption))
local macro_rules | `(tactic| walk_at "my o2") => `(tactic| first | assumption | exact z2 | exact z6 | (exact Rm.h (Sit.rm (by walk_at "my sit"))) | walk_at "my om" | decide | (simp only [List.length_map]; omega/-k-/))
local macro_rules | `(tactic| walk_at "my args") => `(tactic| first | exact A_nil | (apply A_cons; walk_at "my ev"; walk_at "my args"; walk_at "my r"))
local macro_rules | `(tactic| walk_at "my is") => `(tactic| first | exact bt_max | exact bt_min | exact bt_len | exact bt_round | exact bt_str | exact bt_int | exact bt_sum | apply is_v | apply is_bisect_right | apply is_bisect_left | apply is_hsv_to_rgb | apply is_hls_to_rgb | apply is_rgb_to_hsv | apply is_rgb_to_hls | apply is_13 | apply is_16 | apply is_23 | apply is_mark)
local macro_rules | `(tactic| walk_at "my ev") => `(tactic| with_reducible first
  | exact E_Int | exact E_Float | exact E_Str
  | (apply E_Name; walk_at "my sit"; iterate 3 walk_at "my r")
  | (apply E_BinOp; (iterate 2 walk_at "my ev"); ((first | exact B_fadd | exact B_fsub | exact B_fmul | exact B_add_int | exact B_sub_int | apply B_fmod1 | apply B_fdiv | apply B_floordiv_int | apply B_mod_int | apply B_mul_int | apply B_subI | apply B_sub_I | apply B_mulI | apply B_mul_I | apply B_add_I | apply B_fII) <;> walk_at "my o2"))
  | ((first | apply E_Tuple | apply E_List); walk_at "my args"; exact Nat.le_of_ble_eq_true rfl)
  | (apply E_CallB; walk_at "my sit"; walk_at "my r"; kernel_rfl; walk_at "my is"; (first | walk_at "my r" | exact .inl ⟨_, rfl⟩ | exact .inr ⟨_, rfl⟩); decide; walk_at "my r"; walk_at "my args"; ((first | apply K_fmax3 | apply K_fmin | apply K_fmin3 | apply K_max2i | apply K_min2i | apply K_round | apply K_str | apply K_int | apply K_len_str | apply K_len_list | apply K_sum) <;> walk_at "my o2"); iterate 2 walk_at "my r")
  | (apply E_CallF; walk_at "my sit"; walk_at "my r"; walk_at "my is"; kernel_rfl; walk_at "my r"; walk_at "my args"; ((first | apply bisect_right_spec | apply bisect_left_spec | apply v_spec | apply hsv2rgb_spec | apply hls2rgb_spec | apply rgb2hsv_spec | apply rgb2hls_spec) <;> (first | exact Sit.glo (by walk_at "my sit") | exact Sit.rm (by walk_at "my sit") | walk_at "my om")); iterate 2 walk_at "my r")
  | (apply E_GlobVal; walk_at "my sit"; walk_at "my r"; walk_at "my is"; walk_at "my r"; first | exact fun _ => .mkFloat _ _ | exact fun _ => .mkStr _ _)
  | (apply E_Item; (iterate 2 walk_at "my ev"); ((first | apply G_str | apply G_list) <;> first | exact m3 _ | walk_at "my om" | exact abc_at _ | rfl))
  | (apply E_IfExp; walk_at "my test"; iterate 2 (intro hq; first | exact Bool.noConfusion hq | walk_at "my ev")))
local macro_rules | `(tactic| walk_at "my test") => `(tactic| with_reducible first
  | (apply T_Compare; (iterate 2 walk_at "my ev"); (first | exact C_feq | exact C_flt | exact C_fle | exact C_feqI | exact C_fneI | exact C_fltI | exact C_fgtI | exact C_eq_int | exact C_lt_int | exact C_gt_int | exact C_le_int | exact C_ge_int | exact C_eq_str); walk_at "my r")
  | ((first | apply T_Or | apply T_And); walk_at "my test"; (try intro _); walk_at "my test")
  | (apply T_bool; walk_at "my ev"; exact isTrue_Name))
local macro_rules | `(tactic| walk_at "my st") => `(tactic| with_reducible first
  | ((first | apply B_return | apply Bk_ret); intro h F; walk_at "my ev")
  | ((first | apply B_assign | apply Go.assign | apply Bk_assign); (intro h F; walk_at "my ev"); exact .inl (by walk_at "my r"); walk_at "my r")
  | ((first | apply B_if | apply Go.iff | apply Bk_if); (intro h F; walk_at "my test"); all_goals intro _)
  | apply Go.nil | apply Bk_nil
  | ((first | apply B_un3 | apply Go.un3); (intro h F; walk_at "my ev"); (first | exact Seqs.l | exact Seqs.t); (iterate 3 (exact Storable.loc (by walk_at "my r"))); iterate 2 walk_at "my r"))
local macro_rules | `(tactic| walk_at "my lk") => `(tactic| ((try with_unfolding_all (show ∀ q ∈ (_ :: _ : List _), _)); repeat (first | exact fm0 | refine fm (by walk_at "my r") ?_)))
local macro_rules | `(tactic| walk_at "my comp") => `(tactic| ((case c1 => walk_at "my r"); (case c2 => repeat (first | exact Carries.nil | (apply Carries.cons; (iterate 4 walk_at "my r"); iterate 2 (first | exact .inl (by walk_at "my r") | exact .inr (by walk_at "my r"))))); (case c5 | c6 => walk_at "my r"); (case c7 | c8 | c9 | c10 => with_unfolding_all first | exact fun _ => rfl | exact fun _ => ⟨rfl, rfl⟩)))
set_option hygiene true
section
set_option maxHeartbeats 0
noncomputable def fadd (x y : UInt64) : UInt64 := Float64.add x y
noncomputable def fsub (x y : UInt64) : UInt64 := Float64.sub x y
noncomputable def fmul (x y : UInt64) : UInt64 := Float64.mul x y
noncomputable def fdiv (x y : UInt64) : UInt64 := Float64.div x y
noncomputable def fmod1 (x : UInt64) : UInt64 := (Float64.divmod x 4607182418800017408).2
noncomputable def feq (x y : UInt64) : Bool := Float64.cmp x y == some Ordering.eq
noncomputable def flt (x y : UInt64) : Bool := Float64.cmp x y == some Ordering.lt
noncomputable def fle (x y : UInt64) : Bool := Float64.cmp x y == some Ordering.lt || Float64.cmp x y == some Ordering.eq
noncomputable def fzero (x : UInt64) : Bool := Float64.isZero x
noncomputable def fmax (x y : UInt64) : UInt64 := if flt x y then y else x
noncomputable def fmin (x y : UInt64) : UInt64 := if flt y x then y else x
noncomputable def fI (n : Int) : UInt64 := Float64.ofInt n
noncomputable def fII (a b : Int) : UInt64 := fdivII a b
noncomputable def feqI (x : UInt64) (n : Int) : Bool := Float64.cmpInt x n == some Ordering.eq
noncomputable def fltI (x : UInt64) (n : Int) : Bool := Float64.cmpInt x n == some Ordering.lt
noncomputable def fgtI (x : UInt64) (n : Int) : Bool := Float64.cmpInt x n == some Ordering.gt

section
variable {w : World} {A : Around} {h : Heap}
theorem C_feq {a b : UInt64} : CmpTo w A h .Eq (.float a) (.float b) (feq a b) := C_eq_float
theorem C_flt {a b : UInt64} : CmpTo w A h .Lt (.float a) (.float b) (flt a b) := C_lt_float
theorem C_fle {a b : UInt64} : CmpTo w A h .LtE (.float a) (.float b) (fle a b) := C_le_float
theorem C_feqI {a : UInt64} {n : Int} : CmpTo w A h .Eq (.float a) (.int n) (feqI a n) := C_eq_fi
theorem C_fneI {a : UInt64} {n : Int} : CmpTo w A h .NotEq (.float a) (.int n) (!feqI a n) := C_ne_fi
theorem C_fltI {a : UInt64} {n : Int} : CmpTo w A h .Lt (.float a) (.int n) (fltI a n) := C_lt_fi
theorem C_fgtI {a : UInt64} {n : Int} : CmpTo w A h .Gt (.float a) (.int n) (fgtI a n) := C_gt_fi
theorem B_fadd {a b : UInt64} : BinTo w A h .Add (.float a) (.float b) (.float (fadd a b)) := B_add_float
theorem B_fsub {a b : UInt64} : BinTo w A h .Sub (.float a) (.float b) (.float (fsub a b)) := B_sub_float
theorem B_fmul {a b : UInt64} : BinTo w A h .Mult (.float a) (.float b) (.float (fmul a b)) := B_mul_float
theorem B_fdiv {a b : UInt64} (hA : A.handled = none) (hb : fzero b = false) : BinTo w A h .Div (.float a) (.float b) (.float (fdiv a b)) := B_div_float hA hb
theorem B_fmod1 {a : UInt64} (hA : A.handled = none) : BinTo w A h .Mod (.float a) (.float 4607182418800017408) (.float (fmod1 a)) := B_mod_float hA (by decide +kernel)
theorem B_fII {a b : Int} (hA : A.handled = none) (ha : a.natAbs < 2 ^ 64) (hb : b ≠ 0) : BinTo w A h .Div (.int a) (.int b) (.float (fII a b)) := B_div_int hA ha hb
theorem B_add_I {n : Int} {a : UInt64} (hn : n.natAbs < 2 ^ 64) : BinTo w A h .Add (.int n) (.float a) (.float (fadd (fI n) a)) := B_add_if hn
theorem B_sub_I {n : Int} {a : UInt64} (hn : n.natAbs < 2 ^ 64) : BinTo w A h .Sub (.int n) (.float a) (.float (fsub (fI n) a)) := B_sub_if hn
theorem B_subI {n : Int} {a : UInt64} (hn : n.natAbs < 2 ^ 64) : BinTo w A h .Sub (.float a) (.int n) (.float (fsub a (fI n))) := B_sub_fi hn
theorem B_mul_I {n : Int} {a : UInt64} (hn : n.natAbs < 2 ^ 64) : BinTo w A h .Mult (.int n) (.float a) (.float (fmul (fI n) a)) := B_mul_if hn
theorem B_mulI {n : Int} {a : UInt64} (hn : n.natAbs < 2 ^ 64) : BinTo w A h .Mult (.float a) (.int n) (.float (fmul a (fI n))) := B_mul_fi hn
theorem K_fmin {x y : UInt64} (hA : A.handled = none) : CallTo w A h (.builtin "min") [.float x, .float y] (.float (fmin x y)) := K_min2f hA
theorem K_fmax3 {x y z : UInt64} (hA : A.handled = none) : CallTo w A h (.builtin "max") [.float x, .float y, .float z] (.float (fmax (fmax x y) z)) := K_max3f hA
theorem K_fmin3 {x y z : UInt64} (hA : A.handled = none) : CallTo w A h (.builtin "min") [.float x, .float y, .float z] (.float (fmin (fmin x y) z)) := K_min3f hA
end
theorem z1 : fzero 4607182418800017408 = false := by decide +kernel
theorem z2 : fzero 4611686018427387904 = false := by decide +kernel
theorem z6 : fzero 4618441417868443648 = false := by decide +kernel


noncomputable def rgb2hls (r g b : UInt64) : Option (UInt64 × UInt64 × UInt64) :=
  let maxc := fmax (fmax r g) b
  let minc := fmin (fmin r g) b
  let sumc := fadd maxc minc
  let rangec := fsub maxc minc
  let l := fdiv sumc 4611686018427387904
  if feq minc maxc then some (0, l, 0) else
  if fzero rangec then none else
  let d := if fle l 4602678819172646912 then sumc else fsub (fsub 4611686018427387904 maxc) minc
  if fzero d then none else
  let s := fdiv rangec d
  let rc := fdiv (fsub maxc r) rangec
  let gc := fdiv (fsub maxc g) rangec
  let bc := fdiv (fsub maxc b) rangec
  let h := if feq r maxc then fsub bc gc else if feq g maxc then fsub (fadd 4611686018427387904 rc) bc else fsub (fadd 4616189618054758400 gc) rc
  some (fmod1 (fdiv h 4618441417868443648), l, s)

theorem rgb2hls_spec : ∀ {w : World} {A : Around} {h : Heap} {n : Nat} (g : Glo w h) (rm : Rm A n) (hn : n ≤ 99) (r' g' b' x y z : UInt64) (he : rgb2hls r' g' b' = some (x, y, z)),
   CallTo (w := w) A h (.ref 48) [.float r', .float g', .float b'] (.tuple [.float x, .float y, .float z]) := by
  have : (PySem.Challenge.rw_pg0232_01, kK) = (PySem.Challenge.rw_pg0232_01, kK) := rfl
  revert this
  k_fill
  intro _ w A h n g rm hn r' g' b' x y z he
  refine' Call_def (names := ["r", "g", "b"]) g rm hn ?k1z ?k2z ?k3z ?k4z ?k5z ?k6z ?k7z ?k8z ?k9z ?k10z
  case k1z => k_is
  case k2z => k_is
  case k3z => exact len3 (fun _ _ _ => rfl)
  case k4z => rfl
  case k5z => rfl
  case k6z => rfl
  case k7z => rfl
  case k8z => rfl
  case k9z => decide
  case k10z =>
    intro h₀ L k
    unfold rgb2hls at he
    dsimp only at he
    by_cases c1 : feq (fmin (fmin r' g') b') (fmax (fmax r' g') b') = true
    · rw [if_pos c1] at he
      simp only [Option.some.injEq, Prod.mk.injEq] at he
      obtain ⟨rfl, rfl, rfl⟩ := he
      iterate 6 walk_at "my st"
      · ((apply Go.ret; walk_at "my st"))
      · rename_i hb; rw [c1] at hb; cases hb
    · rw [if_neg c1] at he
      by_cases c2 : fzero (fsub (fmax (fmax r' g') b') (fmin (fmin r' g') b')) = true
      · rw [if_pos c2] at he; cases he
      rw [if_neg c2] at he
      rw [Bool.not_eq_true] at c2
      by_cases c4 : fle (fdiv (fadd (fmax (fmax r' g') b') (fmin (fmin r' g') b')) 4611686018427387904) 4602678819172646912 = true
      · rw [if_pos c4] at he
        by_cases c3 : fzero (fadd (fmax (fmax r' g') b') (fmin (fmin r' g') b')) = true
        · rw [if_pos c3] at he; cases he
        rw [if_neg c3] at he
        rw [Bool.not_eq_true] at c3
        simp only [Option.some.injEq, Prod.mk.injEq] at he
        obtain ⟨rfl, rfl, rfl⟩ := he
        iterate 6 walk_at "my st"
        · rename_i hb; exact absurd hb c1
        refine Go.nil ?_
        walk_at "my st"
        · walk_at "my st"
          refine Go.nil ?_
          iterate 4 walk_at "my st"
          all_goals rename_i hb
          · rw [if_pos hb]
            walk_at "my st"
            refine Go.nil ?_
            iterate 2 walk_at "my st"
          · simp only [hb, if_false, Bool.false_eq_true]
            walk_at "my st"
            all_goals rename_i hb'
            all_goals simp only [hb', if_true, if_false, Bool.false_eq_true]
            all_goals walk_at "my st"
            all_goals refine Go.nil ?_
            all_goals iterate 2 walk_at "my st"
        · rename_i hb; rw [c4] at hb; cases hb
      · rw [if_neg c4] at he
        by_cases c3 : fzero (fsub (fsub 4611686018427387904 (fmax (fmax r' g') b')) (fmin (fmin r' g') b')) = true
        · rw [if_pos c3] at he; cases he
        rw [if_neg c3] at he
        rw [Bool.not_eq_true] at c3
        simp only [Option.some.injEq, Prod.mk.injEq] at he
        obtain ⟨rfl, rfl, rfl⟩ := he
        iterate 6 walk_at "my st"
        · rename_i hb; exact absurd hb c1
        refine Go.nil ?_
        walk_at "my st"
        · rename_i hb; exact absurd hb c4
        · walk_at "my st"
          refine Go.nil ?_
          iterate 4 walk_at "my st"
          all_goals rename_i hb
          · rw [if_pos hb]
            walk_at "my st"
            refine Go.nil ?_
            iterate 2 walk_at "my st"
          · simp only [hb, if_false, Bool.false_eq_true]
            walk_at "my st"
            all_goals rename_i hb'
            all_goals simp only [hb', if_true, if_false, Bool.false_eq_true]
            all_goals walk_at "my st"
            all_goals refine Go.nil ?_
            all_goals iterate 2 walk_at "my st"
end
section
noncomputable def rgb2hsv (r g b : UInt64) : Option (UInt64 × UInt64 × UInt64) :=
  let maxc := fmax (fmax r g) b
  let minc := fmin (fmin r g) b
  let rangec := fsub maxc minc
  if feq minc maxc then some (0, 0, maxc) else
  if fzero rangec then none else
  if fzero maxc then none else
  let s := fdiv rangec maxc
  let rc := fdiv (fsub maxc r) rangec
  let gc := fdiv (fsub maxc g) rangec
  let bc := fdiv (fsub maxc b) rangec
  let h := if feq r maxc then fsub bc gc else if feq g maxc then fsub (fadd 4611686018427387904 rc) bc else fsub (fadd 4616189618054758400 gc) rc
  some (fmod1 (fdiv h 4618441417868443648), s, maxc)

theorem rgb2hsv_spec : ∀ {w : World} {A : Around} {h : Heap} {n : Nat} (g : Glo w h) (rm : Rm A n) (hn : n ≤ 99) (r' g' b' x y z : UInt64) (he : rgb2hsv r' g' b' = some (x, y, z)),
   CallTo (w := w) A h (.ref 69) [.float r', .float g', .float b'] (.tuple [.float x, .float y, .float z]) := by
  have : (PySem.Challenge.rw_pg0232_01, kK) = (PySem.Challenge.rw_pg0232_01, kK) := rfl
  revert this
  k_fill
  intro _ w A h n g rm hn r' g' b' x y z he
  refine' Call_def (names := ["r", "g", "b"]) g rm hn ?k1z ?k2z ?k3z ?k4z ?k5z ?k6z ?k7z ?k8z ?k9z ?k10z
  case k1z => k_is
  case k2z => k_is
  case k3z => exact len3 (fun _ _ _ => rfl)
  case k4z => rfl
  case k5z => rfl
  case k6z => rfl
  case k7z => rfl
  case k8z => rfl
  case k9z => decide
  case k10z =>
    intro h₀ L k
    unfold rgb2hsv at he
    dsimp only at he
    by_cases c1 : feq (fmin (fmin r' g') b') (fmax (fmax r' g') b') = true
    · rw [if_pos c1] at he
      simp only [Option.some.injEq, Prod.mk.injEq] at he
      obtain ⟨rfl, rfl, rfl⟩ := he
      iterate 5 walk_at "my st"
      · ((apply Go.ret; walk_at "my st"))
      · rename_i hb; rw [c1] at hb; cases hb
    · rw [if_neg c1] at he
      by_cases c2 : fzero (fsub (fmax (fmax r' g') b') (fmin (fmin r' g') b')) = true
      · rw [if_pos c2] at he; cases he
      rw [if_neg c2] at he
      rw [Bool.not_eq_true] at c2
      by_cases c3 : fzero (fmax (fmax r' g') b') = true
      · rw [if_pos c3] at he; cases he
      rw [if_neg c3] at he
      rw [Bool.not_eq_true] at c3
      simp only [Option.some.injEq, Prod.mk.injEq] at he
      obtain ⟨rfl, rfl, rfl⟩ := he
      iterate 5 walk_at "my st"
      · rename_i hb; exact absurd hb c1
      refine Go.nil ?_
      iterate 5 walk_at "my st"
      all_goals rename_i hb
      · rw [if_pos hb]
        walk_at "my st"
        refine Go.nil ?_
        iterate 2 walk_at "my st"
      · simp only [hb, if_false, Bool.false_eq_true]
        walk_at "my st"
        all_goals rename_i hb'
        all_goals simp only [hb', if_true, if_false, Bool.false_eq_true]
        all_goals walk_at "my st"
        all_goals refine Go.nil ?_
        all_goals iterate 2 walk_at "my st"

/-- int(x) of a finite float -/
noncomputable def ftrunc (x : UInt64) : Option Int := match Float64.decode x with
  | .fin sg m e => some (Float64.truncOf sg m e)
  | _ => none
noncomputable def fround (x : UInt64) : Option Int := match Float64.decode x with
  | .fin sg m e => some (Float64.nearestOf sg m e)
  | _ => none
theorem K_int {w : World} {A : Around} {h : Heap} {x : UInt64} {i : Int} (he : ftrunc x = some i) : CallTo w A h (.type "int") [.float x] (.int i) := by
  intro h' k vs r s e
  obtain ⟨a, rfl, ra⟩ := reps1 r
  obtain ⟨t, rfl⟩ := rep_float ra
  unfold ftrunc at he
  split at he
  · rename_i sg m e' hd
    cases he
    with_reducible refine call_int_float hd ?_
    exact ⟨.tok s _, .mkInt _ _⟩
  · cases he

noncomputable def hsv2rgb (hh s v : UInt64) : Option (UInt64 × UInt64 × UInt64) :=
  if feq s 0 then some (v, v, v) else
  match ftrunc (fmul hh 4618441417868443648) with
  | none => none
  | some i =>
    if 2 ^ 60 ≤ i.natAbs then none else
    let f := fsub (fmul hh 4618441417868443648) (fI i)
    let p := fmul v (fsub 4607182418800017408 s)
    let q := fmul v (fsub 4607182418800017408 (fmul s f))
    let t := fmul v (fsub 4607182418800017408 (fmul s (fsub 4607182418800017408 f)))
    some (if i % 6 = 0 then (v, t, p) else if i % 6 = 1 then (q, v, p) else if i % 6 = 2 then (p, v, t) else if i % 6 = 3 then (p, q, v) else if i % 6 = 4 then (t, p, v) else (v, p, q))

theorem six_no {i : Int} (h0 : i % 6 ≠ 0) (h1 : i % 6 ≠ 1) (h2 : i % 6 ≠ 2) (h3 : i % 6 ≠ 3) (h4 : i % 6 ≠ 4) (h5 : i % 6 ≠ 5) : False := by (walk_at "my om")
noncomputable def pick6 (i : Int) (v t p q : UInt64) : UInt64 × UInt64 × UInt64 :=
  if i % 6 = 0 then (v, t, p) else if i % 6 = 1 then (q, v, p) else if i % 6 = 2 then (p, v, t) else if i % 6 = 3 then (p, q, v) else if i % 6 = 4 then (t, p, v) else (v, p, q)
noncomputable def tu (w : UInt64 × UInt64 × UInt64) : PV := .tuple [.float w.1, .float w.2.1, .float w.2.2]
theorem pick_n {i : Int} {v t p q : UInt64} {w : UInt64 × UInt64 × UInt64} (n : Int) (he : pick6 i v t p q = w) (h : i % 6 = n) :
    tu (if n = 0 then (v, t, p) else if n = 1 then (q, v, p) else if n = 2 then (p, v, t) else if n = 3 then (p, q, v) else if n = 4 then (t, p, v) else (v, p, q)) = tu w := by
  unfold pick6 at he; rw [h] at he; exact congrArg tu he
theorem hsv_out {h s v x y z : UInt64} {G : Prop} (he : hsv2rgb h s v = some (x, y, z)) (k1 : feq s 0 = true → (v, v, v) = (x, y, z) → G)
    (k2 : ¬ feq s 0 = true → ∀ i, ftrunc (fmul h 4618441417868443648) = some i → i.natAbs < 2 ^ 64 → pick6 i v (fmul v (fsub 4607182418800017408 (fmul s (fsub 4607182418800017408 (fsub (fmul h 4618441417868443648) (fI i)))))) (fmul v (fsub 4607182418800017408 s)) (fmul v (fsub 4607182418800017408 (fmul s (fsub (fmul h 4618441417868443648) (fI i))))) = (x, y, z) → G) : G := by
  unfold hsv2rgb at he
  by_cases c1 : feq s 0 = true
  · rw [if_pos c1] at he; exact k1 c1 (Option.some.inj he)
  · rw [if_neg c1] at he
    cases hi : ftrunc (fmul h 4618441417868443648) with
    | none => rw [hi] at he; cases he
    | some i =>
      rw [hi] at he
      replace he : (if 2 ^ 60 ≤ i.natAbs then none else some (pick6 i v (fmul v (fsub 4607182418800017408 (fmul s (fsub 4607182418800017408 (fsub (fmul h 4618441417868443648) (fI i)))))) (fmul v (fsub 4607182418800017408 s)) (fmul v (fsub 4607182418800017408 (fmul s (fsub (fmul h 4618441417868443648) (fI i))))))) = some (x, y, z) := he
      by_cases c2 : 2 ^ 60 ≤ i.natAbs
      · rw [if_pos c2] at he; cases he
      · rw [if_neg c2] at he
        exact k2 c1 i hi (Nat.lt_trans (Nat.lt_of_not_le c2) (by decide)) (Option.some.inj he)
theorem hsv2rgb_spec : ∀ {w : World} {A : Around} {h : Heap} {n : Nat} (g : Glo w h) (rm : Rm A n) (hn : n ≤ 99) (h' s' v' x y z : UInt64) (he : hsv2rgb h' s' v' = some (x, y, z)),
   CallTo (w := w) A h (.ref 76) [.float h', .float s', .float v'] (.tuple [.float x, .float y, .float z]) := by
  have : (PySem.Challenge.rw_pg0232_01, kK) = (PySem.Challenge.rw_pg0232_01, kK) := rfl
  revert this
  k_fill
  intro _ w A h n g rm hn h' s' v' x y z he
  refine' Call_def (names := ["h", "s", "v"]) g rm hn ?k1z ?k2z ?k3z ?k4z ?k5z ?k6z ?k7z ?k8z ?k9z ?k10z
  case k1z => k_is
  case k2z => k_is
  case k3z => exact len3 (fun _ _ _ => rfl)
  case k4z => rfl
  case k5z => rfl
  case k6z => rfl
  case k7z => rfl
  case k8z => rfl
  case k9z => decide
  case k10z =>
    intro h₀ L k
    refine hsv_out he (fun c1 he => ?_) (fun c1 i hi hi64 he => ?_)
    · walk_at "my st"
      · refine' Go.ret (Body.congr ?bbz ?eez)
        case bbz => walk_at "my st"
        case eez => exact congrArg tu he
      · rename_i hb; rw [c1] at hb; cases hb
    · walk_at "my st"
      · rename_i hb; exact absurd hb c1
      refine Go.nil ?_
      with_reducible refine' B_assign ?e1z ?q1z ?s1z ?b1z
      case e1z =>
        intro h F
        with_reducible refine' E_CallB F.sit ?q2z (no_int _) bt_int ?f2z ?ne2z ?db2z ?a2z (K_int hi) ?n2z ?p2z
        case q2z => with_unfolding_all exact rfl
        case f2z => exact .inr ⟨_, rfl⟩
        case ne2z => decide
        case db2z => decide
        case a2z => walk_at "my args"
        case n2z => with_unfolding_all exact rfl
        case p2z => with_unfolding_all exact rfl
      case q1z => exact .inl (by with_unfolding_all exact rfl)
      case s1z => with_unfolding_all exact rfl
      iterate 5 walk_at "my st"
      walk_at "my st"
      · rename_i hb
        refine' Go.ret (Body.congr ?bbz ?eez)
        case bbz => walk_at "my st"
        case eez => exact pick_n 0 he (beq_iff_eq.mp hb)
      rename_i hb0
      refine Go.nil ?_
      walk_at "my st"
      · rename_i hb
        refine' Go.ret (Body.congr ?bbz ?eez)
        case bbz => walk_at "my st"
        case eez => exact pick_n 1 he (beq_iff_eq.mp hb)
      rename_i hb1
      refine Go.nil ?_
      walk_at "my st"
      · rename_i hb
        refine' Go.ret (Body.congr ?bbz ?eez)
        case bbz => walk_at "my st"
        case eez => exact pick_n 2 he (beq_iff_eq.mp hb)
      rename_i hb2
      refine Go.nil ?_
      walk_at "my st"
      · rename_i hb
        refine' Go.ret (Body.congr ?bbz ?eez)
        case bbz => walk_at "my st"
        case eez => exact pick_n 3 he (beq_iff_eq.mp hb)
      rename_i hb3
      refine Go.nil ?_
      walk_at "my st"
      · rename_i hb
        refine' Go.ret (Body.congr ?bbz ?eez)
        case bbz => walk_at "my st"
        case eez => exact pick_n 4 he (beq_iff_eq.mp hb)
      rename_i hb4
      refine Go.nil ?_
      walk_at "my st"
      · rename_i hb
        refine' Go.ret (Body.congr ?bbz ?eez)
        case bbz => walk_at "my st"
        case eez => exact pick_n 5 he (beq_iff_eq.mp hb)
      rename_i hb5
      exact (six_no (beq_eq_false_iff_ne.mp hb0) (beq_eq_false_iff_ne.mp hb1) (beq_eq_false_iff_ne.mp hb2) (beq_eq_false_iff_ne.mp hb3) (beq_eq_false_iff_ne.mp hb4) (beq_eq_false_iff_ne.mp hb5)).elim

noncomputable def vfun (m1 m2 hue : UInt64) : UInt64 :=
  let u := fmod1 hue
  if flt u 4595172819793696085 then fadd m1 (fmul (fmul (fsub m2 m1) u) 4618441417868443648)
  else if flt u 4602678819172646912 then m2
  else if flt u 4604180019048437077 then fadd m1 (fmul (fmul (fsub m2 m1) (fsub 4604180019048437077 u)) 4618441417868443648)
  else m1

theorem v_spec : ∀ {w : World} {A : Around} {h : Heap} {n : Nat} (g : Glo w h) (rm : Rm A n) (hn : n ≤ 99) (a b c : UInt64),
   CallTo (w := w) A h (.ref 62) [.float a, .float b, .float c] (.float (vfun a b c)) := by
  have : (PySem.Challenge.rw_pg0232_01, kK) = (PySem.Challenge.rw_pg0232_01, kK) := rfl
  revert this
  k_fill
  intro _ w A h n g rm hn a b c
  refine' Call_def (names := ["m1", "m2", "hue"]) g rm hn ?k1z ?k2z ?k3z ?k4z ?k5z ?k6z ?k7z ?k8z ?k9z ?k10z
  case k1z => k_is
  case k2z => k_is
  case k3z => exact len3 (fun _ _ _ => rfl)
  case k4z => rfl
  case k5z => rfl
  case k6z => rfl
  case k7z => rfl
  case k8z => rfl
  case k9z => decide
  case k10z =>
    intro h₀ L k
    unfold vfun
    dsimp only
    walk_at "my st"
    walk_at "my st"
    · rename_i hb; rw [if_pos hb]; ((apply Go.ret; walk_at "my st"))
    rename_i hb
    simp only [hb, Bool.false_eq_true, if_false]
    refine Go.nil ?_
    walk_at "my st"
    · rename_i hb; rw [if_pos hb]; ((apply Go.ret; walk_at "my st"))
    rename_i hb
    simp only [hb, Bool.false_eq_true, if_false]
    refine Go.nil ?_
    walk_at "my st"
    · rename_i hb; rw [if_pos hb]; ((apply Go.ret; walk_at "my st"))
    rename_i hb
    simp only [hb, Bool.false_eq_true, if_false]
    refine Go.nil ?_
    walk_at "my st"

noncomputable def hls2rgb (hh l s : UInt64) : UInt64 × UInt64 × UInt64 :=
  if feq s 0 then (l, l, l) else
  let m2 := if fle l 4602678819172646912 then fmul l (fadd 4607182418800017408 s) else fsub (fadd l s) (fmul l s)
  let m1 := fsub (fmul 4611686018427387904 l) m2
  (vfun m1 m2 (fadd hh 4599676419421066581), vfun m1 m2 hh, vfun m1 m2 (fsub hh 4599676419421066581))

theorem hls2rgb_spec : ∀ {w : World} {A : Around} {h : Heap} {n : Nat} (g : Glo w h) (rm : Rm A n) (hn : n ≤ 98) (h' l' s' x y z : UInt64) (he : hls2rgb h' l' s' = (x, y, z)),
   CallTo (w := w) A h (.ref 55) [.float h', .float l', .float s'] (.tuple [.float x, .float y, .float z]) := by
  have : (PySem.Challenge.rw_pg0232_01, kK) = (PySem.Challenge.rw_pg0232_01, kK) := rfl
  revert this
  k_fill
  intro _ w A h n g rm hn h' l' s' x y z he
  refine' Call_def (names := ["h", "l", "s"]) g rm (by (walk_at "my om")) ?k1z ?k2z ?k3z ?k4z ?k5z ?k6z ?k7z ?k8z ?k9z ?k10z
  case k1z => k_is
  case k2z => k_is
  case k3z => exact len3 (fun _ _ _ => rfl)
  case k4z => rfl
  case k5z => rfl
  case k6z => rfl
  case k7z => rfl
  case k8z => rfl
  case k9z => decide
  case k10z =>
    intro h₀ L k
    unfold hls2rgb at he
    by_cases c1 : feq s' 0 = true
    · rw [if_pos c1] at he
      cases he
      walk_at "my st"
      · ((apply Go.ret; walk_at "my st"))
      · rename_i hb; rw [c1] at hb; cases hb
    · rw [if_neg c1] at he
      dsimp only at he
      walk_at "my st"
      · rename_i hb; exact absurd hb c1
      refine Go.nil ?_
      walk_at "my st"
      all_goals
        rename_i hb
        simp only [hb, if_true, if_false, Bool.false_eq_true] at he
        cases he
        walk_at "my st"
        refine Go.nil ?_
        walk_at "my st"
        walk_at "my st"
end
section
section
variable {w : World} {A : Around} {env : Env} {n : Nat} {h₀ h : Heap} {ρ : List (Str × PV)}

/-- what a block leaves behind -/
noncomputable def BlkPost (w : World) (A : Around) (env : Env) (n : Nat) (h₀ : Heap) (kp : Bool) (C : List (Str × PV) → Prop) (r : PV) (s : Shared) (f : Flow) (s' : Shared) : Prop :=
  Same s s' ∧ (kp = true → Keep s.heap s'.heap) ∧ ((f = .next ∧ ∃ ρ', Frm w A env n h₀ ρ' s'.heap ∧ C ρ') ∨ ∃ v, f = .ret v ∧ Ext h₀ s'.heap ∧ Rep s'.heap r v)

noncomputable def Blk (w : World) (A : Around) (env : Env) (n : Nat) (h₀ : Heap) (kp : Bool) (ρ : List (Str × PV)) (stmts : List Stmt) (C : List (Str × PV) → Prop) (r : PV) : Prop :=
  ∀ s : Shared, Frm w A env n h₀ ρ s.heap → wpAny (model PP w) A (execs stmts env) (BlkPost w A env n h₀ kp C r s) (fun _ _ => False) s

theorem BlkPost.pre {kp : Bool} {C : List (Str × PV) → Prop} {r : PV} {s s₁ s' : Shared} {f : Flow} (g : Same s s₁) (k : Keep s.heap s₁.heap) (p : BlkPost w A env n h₀ kp C r s₁ f s') : BlkPost w A env n h₀ kp C r s f s' :=
  ⟨g.trans p.1, fun q => k.trans (p.2.1 q), p.2.2⟩
theorem Blk.from {kp : Bool} {stmts : List Stmt} {C : List (Str × PV) → Prop} {r : PV} {s s₁ : Shared} (b : Blk w A env n h₀ kp ρ stmts C r) (F : Frm w A env n h₀ ρ s₁.heap) (g : Same s s₁) (k : Keep s.heap s₁.heap) :
    wpAny (model PP w) A (execs stmts env) (BlkPost w A env n h₀ kp C r s) (fun _ _ => False) s₁ :=
  wpAny_mono (b s₁ F) (fun _ _ p => p.pre g k) fun _ _ x => x

theorem Body.ofBlk {stmts : List Stmt} {r : PV} (b : Blk w A env n h₀ false ρ stmts (fun _ => False) r) : Body w A env n h₀ ρ stmts r := fun s F =>
  wpAny_mono (b s F) (fun f s' p => by
    obtain ⟨a, _, ⟨_, _, _, x⟩ | ⟨v, x, y, z⟩⟩ := p
    · exact x.elim
    · exact ⟨v, x, a, y, z⟩) fun _ _ x => x

theorem Bk_nil {kp : Bool} {C : List (Str × PV) → Prop} {r : PV} (c : C ρ) : Blk w A env n h₀ kp ρ [] C r := fun s F => wpAny_execs_nil ⟨.refl s, fun _ => .refl _, .inl ⟨rfl, ρ, F, c⟩⟩
theorem Bk_ret {kp : Bool} {C : List (Str × PV) → Prop} {r : PV} {e : PySem.Expr} {pos : Pos} {rest : List Stmt} (he : ∀ h, Frm w A env n h₀ ρ h → EvalsTo w A env h e r) : Blk w A env n h₀ kp ρ (.Return (some e) pos :: rest) C r := by
  intro s F
  refine wpAny_execs_cons (wpAny_Return_some ((he _ F).use (.refl _) fun v s' g p => ?_))
  exact ⟨g.same, fun _ => g.ext.keep, .inr ⟨v, rfl, F.ext.trans g.ext, p⟩⟩
theorem Bk_assign {kp : Bool} {C : List (Str × PV) → Prop} {x : Str} {e : PySem.Expr} {pos pos' : Pos} {more : List Stmt} {pv r : PV} (he : ∀ h, Frm w A env n h₀ ρ h → EvalsTo w A env h e pv)
    (hk : Storable env x) (hs : swapsWith e (some (.Name x pos')) pos.line env = pure false)
    (b : Blk w A env n h₀ kp ((x, pv) :: ρ) more C r) : Blk w A env n h₀ kp ρ (.Assign [.Name x pos'] e pos :: more) C r := by
  intro s F
  refine wpAny_execs_cons (wpAny_Assign_Name ((he _ F).use (.refl _) fun v s₁ g₁ p₁ => ?_) hs)
  refine (F.grow g₁.ext).store p₁ hk fun h' tk F' _ k => ?_
  exact b.from F' (g₁.same.trans ⟨_, _, rfl⟩) (g₁.ext.keep.trans k)
theorem Bk_if {kp : Bool} {C : List (Str × PV) → Prop} {t : PySem.Expr} {body orelse more : List Stmt} {pos : Pos} {b : Bool} {r : PV} (ht : ∀ h, Frm w A env n h₀ ρ h → TestTo w A env h t b)
    (h1 : b = true → Blk w A env n h₀ kp ρ body (fun ρ' => Blk w A env n h₀ kp ρ' more C r) r) (h0 : b = false → Blk w A env n h₀ kp ρ orelse (fun ρ' => Blk w A env n h₀ kp ρ' more C r) r) :
    Blk w A env n h₀ kp ρ (.If t body orelse pos :: more) C r := by
  intro s F
  refine wpAny_execs_cons (wpAny_If ((ht _ F).use (.refl _) fun v s₁ g₁ p₁ => ?_))
  have tail : ∀ {stmts : List Stmt}, Blk w A env n h₀ kp ρ stmts (fun ρ' => Blk w A env n h₀ kp ρ' more C r) r → wpAny (model PP w) A (execs stmts env) (fun f s' => match f with
      | .next => wpAny (model PP w) A (execs more env) (BlkPost w A env n h₀ kp C r s) (fun _ _ => False) s'
      | f => BlkPost w A env n h₀ kp C r s f s') (fun _ _ => False) s₁ := fun b =>
    wpAny_mono (b.from (F.grow g₁.ext) g₁.same g₁.ext.keep) (fun f s' x => by
      obtain ⟨a, k, ⟨rfl, ρ', F', b'⟩ | ⟨v, rfl, y, z⟩⟩ := x
      · refine wpAny_mono (b' s' F') (fun f s'' p => ?_) fun _ _ x => x
        exact ⟨a.trans p.1, fun q => (k q).trans (p.2.1 q), p.2.2⟩
      · exact ⟨a, k, .inr ⟨v, rfl, y, z⟩⟩) fun _ _ x => x
  subst p₁
  cases v with
  | true => exact tail (h1 rfl)
  | false => exact tail (h0 rfl)
theorem Bk_sub {kp : Bool} {C : List (Str × PV) → Prop} {stmts : List Stmt} {r : PV} {ρ' : List (Str × PV)} (k : ∀ x pv, ρ'.lookup x = some pv → ρ.lookup x = some pv) (b : Blk w A env n h₀ kp ρ' stmts C r) : Blk w A env n h₀ kp ρ stmts C r := fun s F => b s (F.sub k)
theorem Bk_eq {kp : Bool} {C : List (Str × PV) → Prop} {stmts : List Stmt} {r r' : PV} (b : Blk w A env n h₀ kp ρ stmts C r) (e : r = r') : Blk w A env n h₀ kp ρ stmts C r' := e ▸ b

/-- a while loop: the word I of the names, the measure m -/
theorem Bk_while {kp : Bool} {C : List (Str × PV) → Prop} {t : PySem.Expr} {body more : List Stmt} {pos : Pos} {r : PV} (I : Nat → List (Str × PV) → Prop) (m₀ : Nat) (i₀ : I m₀ ρ)
    (turn : ∀ m ρ', I m ρ' → ∃ b, (∀ h, Frm w A env n h₀ ρ' h → TestTo w A env h t b) ∧ (b = true → Blk w A env n h₀ kp ρ' body (fun ρ'' => ∃ m', m' < m ∧ I m' ρ'') r) ∧ (b = false → Blk w A env n h₀ kp ρ' more C r)) :
    Blk w A env n h₀ kp ρ (.While t body [] pos :: more) C r := by
  intro s F
  refine wpAny_execs_cons (wpAny_While ?_)
  refine codeAny_mono (codeAny_whileLoop (R := fun res s' => match res with
      | .ok .next => ∃ ρ', Same s s' ∧ (kp = true → Keep s.heap s'.heap) ∧ Frm w A env n h₀ ρ' s'.heap ∧ Blk w A env n h₀ kp ρ' more C r
      | .ok f => BlkPost w A env n h₀ kp C r s f s'
      | .error _ => False)
    (fun m s' => ∃ ρ', Same s s' ∧ (kp = true → Keep s.heap s'.heap) ∧ Frm w A env n h₀ ρ' s'.heap ∧ I m ρ') ?_ m₀ ⟨ρ, .refl s, fun _ => .refl _, F, i₀⟩) ?_
  · rintro m s' ⟨ρ', g, k, F', i⟩
    obtain ⟨b, ht, hb, he⟩ := turn m ρ' i
    refine (ht _ F').use (.refl _) fun v s₁ g₁ p₁ => ?_
    have F₁ := F'.grow g₁.ext
    subst p₁
    cases v with
    | true =>
      refine wpAny_mono (hb rfl s₁ F₁) (fun f s₂ p => ?_) fun _ _ x => x.elim
      obtain ⟨a, k', ⟨rfl, ρ₂, F₂, m', hm, i'⟩ | ⟨u, rfl, y, z⟩⟩ := p
      · exact ⟨m', hm, ρ₂, (g.trans g₁.same).trans a, fun q => ((k q).trans g₁.ext.keep).trans (k' q), F₂, i'⟩
      · exact ⟨(g.trans g₁.same).trans a, fun q => ((k q).trans g₁.ext.keep).trans (k' q), .inr ⟨u, rfl, y, z⟩⟩
    | false =>
      refine wpAny_execs_nil ?_
      exact ⟨ρ', g.trans g₁.same, fun q => (k q).trans g₁.ext.keep, F₁, he rfl⟩
  · intro res s' h
    cases res with
    | error e => exact h.elim
    | ok f =>
      cases f with
      | next =>
        obtain ⟨ρ', g, k, F', b⟩ := h
        refine wpAny_mono (b s' F') (fun f s'' p => ?_) fun _ _ x => x
        exact ⟨g.trans p.1, fun q => (k q).trans (p.2.1 q), p.2.2⟩
      | brk => exact h
      | cont => exact h
      | ret v => exact h

/-- an iterator that will yield these -/
noncomputable def ItAt (h : Heap) (it : Addr) (rest : List PV) : Prop :=
  (∃ l i vs xs, h.IsListIter it l i ∧ h.IsList l vs.toArray ∧ Reps h xs vs ∧ rest = xs.drop i) 
theorem Frm.iterBut {it : Addr} {h' : Heap} (F : Frm w A env n h₀ ρ h) (s : Heap.ExtBut it h h') (hit : ∃ o vs, h.get? it = some o ∧ o.data = .fields vs) (hlo : h₀.objs.size ≤ it) : Frm w A env n h₀ ρ h' := by
  obtain ⟨oi, fs, ei, di⟩ := hit
  have ne : ∀ b o, h.get? b = some o → (∀ vs, o.data ≠ .fields vs) → h'.get? b = some o := fun b o e d => s b o (fun q => by subst q; rw [ei] at e; cases e; exact d _ di) e
  have st : Still h h' := fun b o xs n e d => ne b o e fun vs q => by rw [d] at q; cases q
  have nsk : ∀ {m : Str → Option Value} {a : Addr}, h.Ns a m → h'.Ns a m := fun x => by
    obtain ⟨o, es, ep, e, d, r⟩ := x
    exact ⟨o, es, ep, ne _ o e (fun vs q => by rw [d] at q; cases q), d, r⟩
  have ck : ∀ {a : Addr} {v : Option Value}, h.IsCell a v → h'.IsCell a v := fun x => by
    obtain ⟨o, e, d⟩ := x
    exact ⟨o, ne _ o e (fun vs q => by rw [d] at q; cases q), d⟩
  exact { F with
    ext := fun b o e => s b o (Nat.ne_of_lt (Nat.lt_of_lt_of_le (Heap.lt_size e) hlo)) (F.ext b o e)
    ns := let ⟨m, a⟩ := F.ns; ⟨m, nsk a⟩
    cells := fun x c e => let ⟨a, v, b⟩ := F.cells x c e; ⟨a, v, ck b⟩
    look := fun x pv e => let ⟨v, a, b⟩ := F.look x pv e; ⟨v, Rep.still st _ _ a, by
      rcases b with ⟨k, m, hm, hv⟩ | ⟨k, c, hc, hv⟩
      · exact .inl ⟨k, m, nsk hm, hv⟩
      · exact .inr ⟨k, c, hc, ck hv⟩⟩ }

/-- for x in a list -/
theorem Bk_for {kp : Bool} {C : List (Str × PV) → Prop} {x : Str} {px pos : Pos} {iter : PySem.Expr} {body more : List Stmt} {r : PV} {items : List PV} (I : Nat → List (Str × PV) → Prop)
    (he : ∀ h, Frm w A env n h₀ ρ h → EvalsTo w A env h iter (.list items)) (hk : Storable env x) (i₀ : I 0 ρ)
    (turn : ∀ i y ρ', I i ρ' → items[i]? = some y → Blk w A env n h₀ true ((x, y) :: ρ') body (fun ρ'' => I (i + 1) ρ'') r)
    (fin : ∀ ρ', I items.length ρ' → Blk w A env n h₀ kp ρ' more C r)
    (hs : ∀ x, foldedSetIterable iter env x = pure x) (hgo : ∀ it v, letOwnedTupleGo (.Name x px) it v = pure ()) : Blk w A env n h₀ kp ρ (.For (.Name x px) iter body [] pos :: more) C r := by
  intro s F
  refine wpAny_execs_cons (wpAny_For ((he _ F).use (.refl _) fun v s₁ g₁ p₁ => ?_) hs)
  have F₁ := F.grow g₁.ext
  obtain ⟨l, vs, rfl, hl, hr⟩ := rep_list p₁
  refine wpAny_pyIter_list hl ?_
  have hsz : h₀.objs.size ≤ s₁.heap.objs.size := by
    obtain ⟨m, hm⟩ := F₁.ns
    exact Nat.le_trans F₁.above (Nat.le_of_lt hm.lt)
  have kpush : Ext s₁.heap (s₁.heap.push { cls := .type "list_iterator", data := .fields #[.ref l, .int 0 0] }) := Ext.push _ _
  have F₂ := F₁.grow kpush
  have hlit : l ≠ s₁.heap.objs.size := by obtain ⟨o, e, _⟩ := hl; exact Nat.ne_of_lt (Heap.lt_size e)
  refine codeAny_mono (codeAny_forLoop (R := fun res s' => match res with
      | .ok .next => ∃ ρ', Same s s' ∧ (kp = true → Keep s.heap s'.heap) ∧ Frm w A env n h₀ ρ' s'.heap ∧ I items.length ρ'
      | .ok f => BlkPost w A env n h₀ kp C r s f s'
      | .error _ => False)
    (fun m s' => ∃ i ρ', m = items.length - i ∧ i ≤ items.length ∧ Same s s' ∧ Keep s₁.heap s'.heap ∧ Frm w A env n h₀ ρ' s'.heap ∧ I i ρ' ∧ s'.heap.IsListIter s₁.heap.objs.size l i ∧ s'.heap.IsList l vs.toArray ∧ Reps s'.heap items vs) ?_ items.length
    ⟨0, ρ, rfl, Nat.zero_le _, g₁.same.trans ⟨_, _, rfl⟩, kpush.keep, F₂, i₀, ⟨_, Heap.get?_push_size _ rfl, rfl, rfl⟩, isList_ext hl kpush, Reps.mono kpush _ _ hr⟩ (hgo _)) ?_
  · rintro m s' ⟨i, ρ', rfl, hI⟩
    refine and8 hI fun hi g k F' ii hit hl' hr' => ?_
    clear hI
    have hfields : ∃ o vs, s'.heap.get? s₁.heap.objs.size = some o ∧ o.data = .fields vs := let ⟨o, e, _, d⟩ := hit; ⟨o, _, e, d⟩
    rcases Nat.lt_or_ge i items.length with hlt | hge
    · have hy : items[i]? = some items[i] := List.getElem?_eq_getElem hlt
      obtain ⟨u, hu, ru⟩ := hr'.get i _ hy
      refine wpAny_pyNext_list_item hit hl' (by simpa using hu) fun h₂ hit₂ hs₂ => ?_
      have F₃ : Frm w A env n h₀ ρ' h₂ := F'.iterBut hs₂.extBut hfields hsz
      have st₂ : Still s'.heap h₂ := Still.sameBut hs₂ (fun o xs q e d => by obtain ⟨o', fs, e', d'⟩ := hfields; rw [e] at e'; cases e'; rw [d] at d'; cases d')
      show wpAny _ _ (assign (.Name x px) env u) _ _ _
      show wpAny _ _ (standAt px >>= fun _ => bindName env x u) _ _ _
      refine wpAny_bind (wpAny_standAt (wpAny_bindName ?_))
      refine Frm.store (s := { s' with heap := h₂ }) F₃ (Rep.still st₂ _ _ ru) hk fun h₃ tk F₄ st₃ k₃ => ?_
      refine wpAny_mono (turn i _ ρ' ii hy { s' with heap := h₃, toks := tk } F₄) (fun f s₅ p => ?_) fun _ _ x => x.elim
      obtain ⟨a, k', q⟩ := p
      have k₅ : Keep h₃ s₅.heap := k' rfl
      -- the iterator is told apart
      have kk : Keep s₁.heap s₅.heap := fun b o e d c => by
        have hb : b ≠ s₁.heap.objs.size := Nat.ne_of_lt (Heap.lt_size e)
        exact k₅ b o (k₃ b o (hs₂.extBut b o hb (k b o e d c)) d c) d c
      have gg : Same s s₅ := g.trans (Same.trans ⟨_, _, rfl⟩ a)
      rcases q with ⟨rfl, ρ₂, F₅, i'⟩ | ⟨u', rfl, y, z⟩
      · have kit : Keep h₂ s₅.heap := k₃.trans k₅
        have still : Still h₂ s₅.heap := fun b o xs n e d => kit b o e (fun es ep q => by rw [d] at q; cases q) (fun v q => by rw [d] at q; cases q)
        refine ⟨items.length - (i + 1), Nat.sub_lt_sub_left hlt (Nat.lt_succ_self i), i + 1, ρ₂, rfl, hlt, gg, kk, F₅, i', ?_, isList_still (isList_still hl' st₂) still, Reps.still still _ _ (Reps.still st₂ _ _ hr')⟩
        obtain ⟨o, e, c, d⟩ := hit₂
        exact ⟨o, kit _ o e (fun es ep q => by rw [d] at q; cases q) (fun v q => by rw [d] at q; cases q), c, d⟩
      · exact ⟨gg, fun _ => g₁.ext.keep.trans kk, .inr ⟨u', rfl, y, z⟩⟩
    · have hi' : i = items.length := Nat.le_antisymm hi hge
      subst hi'
      refine wpAny_pyNext_list_end F.rm.h hit hl' (by rw [List.getElem?_toArray]; exact List.getElem?_eq_none (by rw [hr'.length]; exact Nat.le_refl _)) fun h₂ hs₂ => ?_
      refine wpAny_execs_nil ?_
      have F₃ : Frm w A env n h₀ ρ' h₂ := F'.iterBut hs₂ hfields hsz
      refine ⟨ρ', g.trans ⟨_, _, rfl⟩, fun _ => g₁.ext.keep.trans fun b o e d c => hs₂ b o (Nat.ne_of_lt (Heap.lt_size e)) (k b o e d c), F₃, ii⟩
  · intro res s' h
    cases res with
    | error e => exact h.elim
    | ok f =>
      cases f with
      | next =>
        obtain ⟨ρ', g, k, F', i⟩ := h
        refine wpAny_mono (fin ρ' i s' F') (fun f s'' p => ?_) fun _ _ x => x
        exact ⟨g.trans p.1, fun q => (k q).trans (p.2.1 q), p.2.2⟩
      | brk => exact h
      | cont => exact h
      | ret v => exact h
end
end
section
section
variable {w : World} {A : Around} {env : Env} {n : Nat} {h₀ h : Heap} {ρ : List (Str × PV)}

noncomputable def GetTo (w : World) (A : Around) (h : Heap) (x y r : PV) : Prop := ∀ h', Ext h h' → ∀ o i, Rep h' x o → Rep h' y i →
  ∃ T id, (∀ s : Shared, Ext h' s.heap → s.TypeIs o T) ∧ typeLookup (.type T) "__getitem__" = pure (some (.builtin id)) ∧ Ev w A (getItem o i) h' fun v h'' => Rep h'' r v

theorem subscripted_any (slice : PySem.Expr) (o i : Value) : ∃ ops, subscripted slice false o i = operate ops (getItem o i) := by
  cases slice <;> first | exact ⟨_, rfl⟩ | (rename_i s _; cases s <;> exact ⟨_, rfl⟩)

theorem E_Item {value slice : PySem.Expr} {pos : Pos} {x y r : PV} (hv : EvalsTo w A env h value x) (hs : EvalsTo w A env h slice y) (hg : GetTo w A h x y r) : EvalsTo w A env h (.Subscript value slice pos) r := by
  intro s e
  refine Subscript_ (hv.use e fun o s₁ g₁ r₁ => hs.use (e.trans g₁.ext) fun i s₂ g₂ r₂ => ?_)
  obtain ⟨T, id, hT, hl, hE⟩ := hg s₂.heap ((e.trans g₁.ext).trans g₂.ext) o i (Rep.mono g₂.ext _ _ r₁) r₂
  obtain ⟨ops, ho⟩ := subscripted_any slice o i
  refine tail_any (hT s₂ (.refl _)) hl ?_ ho
  exact hE.use (.refl _) fun v s₃ g₃ r₃ => ⟨(g₁.trans g₂).trans g₃, r₃⟩

theorem G_list {xs : List PV} {i : Int} {r : PV} (h0 : 0 ≤ i) (h1 : i < 2 ^ 63) (hx : xs[i.toNat]? = some r) : GetTo w A h (.list xs) (.int i) r := by
  intro h' k o j ro rj
  obtain ⟨a, vs, rfl, l, rs⟩ := rep_list ro
  obtain ⟨t, rfl⟩ := rep_int rj
  refine ⟨"list", _, fun s e => (isList_ext l e).typeIs, slot_list_getitem.lookup, fun s e => ?_⟩
  obtain ⟨v, hv, rv⟩ := rs.get _ _ hx
  refine wpAny_getItem_list (isList_ext l e) h0 h1 (by simpa using hv) ?_
  exact ⟨.refl s, Rep.mono e _ _ rv⟩

noncomputable def OptTo (w : World) (A : Around) (env : Env) (h : Heap) (e : Option PySem.Expr) (o : Option Int) : Prop := Ev w A (valueOrNone (evalOpt e env)) h fun v _ => IsPart v o
theorem O_none : OptTo w A env h none none := fun s _ => wpAny_pure ⟨.refl s, .none⟩
theorem O_some {e : PySem.Expr} {i : Int} (he : EvalsTo w A env h e (.int i)) : OptTo w A env h (some e) (some i) := Ev.imp he fun v h' _ r => by
  obtain ⟨t, rfl⟩ := rep_int r
  exact .int i t

theorem eval_SliceEq (l u t : Option PySem.Expr) (p : Pos) : eval (.Slice l u t p) env = (do
    let a ← valueOrNone (evalOpt l env)
    let b ← holding [a] (valueOrNone (evalOpt u env))
    let c ← holding [a, b] (valueOrNone (evalOpt t env))
    newFields "slice" [a, b, c]) := rfl
theorem E_SliceObj {l u t : Option PySem.Expr} {p : Pos} {a b c : Option Int} (hl : OptTo w A env h l a) (hu : OptTo w A env h u b) (ht : OptTo w A env h t c) :
    Ev w A (eval (.Slice l u t p) env) h fun v h' => ∃ sl vl vu vs, v = .ref sl ∧ h'.IsSliceOf sl vl vu vs ∧ IsPart vl a ∧ IsPart vu b ∧ IsPart vs c := by
  intro s e
  rw [eval_SliceEq]
  refine wpAny_bind (hl.use e fun va s₁ g₁ r₁ => ?_)
  refine wpAny_bind (wpAny_holding (hu.use (e.trans g₁.ext) fun vb s₂ g₂ r₂ => ?_))
  refine wpAny_bind (wpAny_holding (ht.use ((e.trans g₁.ext).trans g₂.ext) fun vc s₃ g₃ r₃ => ?_))
  refine wpAny_newObj_type ?_ (by size_fits)
  exact ⟨((g₁.trans g₂).trans g₃).trans (.heap' (Ext.push _ _)), _, va, vb, vc, rfl, .new _ _ _ _, r₁, r₂, r₃⟩

noncomputable def pickL {α : Type} (xs : List α) (lo hi st : Option Int) : List α :=
  (sliceRange (sliceBounds lo hi st xs.length).1 (sliceBounds lo hi st xs.length).2.1 (sliceBounds lo hi st xs.length).2.2).filterMap (xs[·]?)
theorem reps_filterMap {h : Heap} {xs : List PV} {vs : List Value} (r : Reps h xs vs) : ∀ (is : List Nat), Reps h (is.filterMap (xs[·]?)) (is.filterMap (vs[·]?))
  | [] => by simp [Reps]
  | i :: is => by
    rw [List.filterMap_cons, List.filterMap_cons]
    cases hx : xs[i]? with
    | none =>
      have : vs[i]? = none := by
        rw [List.getElem?_eq_none_iff] at hx ⊢
        rw [r.length]; exact hx
      rw [this]; exact reps_filterMap r is
    | some x =>
      obtain ⟨v, hv, rv⟩ := r.get i x hx
      rw [hv]; exact .cons rv (reps_filterMap r is)
theorem E_SliceList {value : PySem.Expr} {l u t : Option PySem.Expr} {p pos : Pos} {xs : List PV} {a b c : Option Int} (hv : EvalsTo w A env h value (.list xs)) (hl : OptTo w A env h l a) (hu : OptTo w A env h u b) (ht : OptTo w A env h t c)
    (h0 : c ≠ some 0) (hsz : xs.length ≤ sizeLine) : EvalsTo w A env h (.Subscript value (.Slice l u t p) pos) (.list (pickL xs a b c)) := by
  intro s e
  refine Subscript_ (hv.use e fun o s₁ g₁ r₁ => (E_SliceObj hl hu ht).use (e.trans g₁.ext) fun i s₂ g₂ r₂ => ?_)
  obtain ⟨sl, vl, vu, vs, rfl, hsl, pl, pu, ps⟩ := r₂
  obtain ⟨la, ws, rfl, hL, rs⟩ := rep_list (Rep.mono g₂.ext _ _ r₁)
  obtain ⟨ops, ho⟩ := subscripted_any (.Slice l u t p) (.ref la) (.ref sl)
  refine tail_any hL.typeIs slot_list_getitem.lookup ?_ ho
  refine wpAny_getItem_list_slice hL hsl pl pu ps h0 ?_ (by rw [List.size_toArray, rs.length]; exact hsz)
  have k := Ext.push s₂.heap { cls := .type "list", data := .seq (slicePick ws.toArray a b c) }
  refine ⟨(g₁.trans g₂).trans (.heap' k), ?_⟩
  have hp : slicePick ws.toArray a b c = (((sliceRange (sliceBounds a b c xs.length).1 (sliceBounds a b c xs.length).2.1 (sliceBounds a b c xs.length).2.2).filterMap (ws[·]?))).toArray := by
    unfold slicePick
    simp only [List.size_toArray, rs.length, List.getElem?_toArray]
  refine .mkList (vs := (sliceRange (sliceBounds a b c xs.length).1 (sliceBounds a b c xs.length).2.1 (sliceBounds a b c xs.length).2.2).filterMap (ws[·]?)) ⟨_, Heap.get?_push_size _ rfl, rfl, _, by rw [hp]⟩ (Reps.mono k _ _ (reps_filterMap rs _))
theorem E_SliceStr {value l u : PySem.Expr} {p pos : Pos} {x : Str} {a b : Int} (hv : EvalsTo w A env h value (.str x)) (hl : EvalsTo w A env h l (.int a)) (hu : EvalsTo w A env h u (.int b))
    (hsz : x.length ≤ sizeLine) : EvalsTo w A env h (.Subscript value (.Slice (some l) (some u) none p) pos) (.str (Txt.slice x (some a) (some b))) := by
  intro s e
  refine Subscript_ (hv.use e fun o s₁ g₁ r₁ => ?_)
  obtain ⟨t, rfl⟩ := rep_str r₁
  rw [eval_SliceEq]
  refine wpAny_bind ((O_some hl).use (e.trans g₁.ext) fun va s₂ g₂ r₂ => ?_)
  refine wpAny_bind (wpAny_holding ((O_some hu).use ((e.trans g₁.ext).trans g₂.ext) fun vb s₃ g₃ r₃ => ?_))
  refine wpAny_bind (wpAny_holding (O_none.use (h := h) (((e.trans g₁.ext).trans g₂.ext).trans g₃.ext) fun vc s₄ g₄ r₄ => ?_))
  cases r₂ with
  | int _ ta =>
  cases r₃ with
  | int _ tb =>
  cases r₄
  refine wpAny_newObj_type ?_ (by size_fits)
  obtain ⟨ops, ho⟩ := subscripted_any (.Slice (some l) (some u) none p) (.str x t) (.ref s₄.heap.objs.size)
  obtain ⟨T, id, hl', hT, hg⟩ := SBH.sliceItem_ss (prog := PP) (w := w) (A := A) (E := fun _ _ => False) (s := s₄) (x := x) (t := t) (i := a) (j := b) (ui := ta) (uj := tb) (P := fun h' => Ext s₄.heap h')
    (Q := fun v s' => Grows s s' ∧ Rep s'.heap (.str (Txt.slice x (some a) (some b))) v) (fun h' o q => q.trans (Ext.push _ _)) (.refl _) (fun h' t' k q => ⟨(((g₁.trans g₂).trans g₃).trans g₄).trans (.heap q _), .mkStr _ _⟩) hsz
  exact tail_any hT hl' hg ho

/-- len -/
theorem K_len_list {xs : List PV} (hsz : xs.length < 2 ^ 62) : CallTo w A h (.builtin "len") [.list xs] (.int xs.length) := by
  intro h' k vs r s e
  obtain ⟨a, rfl, ra⟩ := reps1 r
  obtain ⟨l, us, rfl, hl, rs⟩ := rep_list ra
  refine len_list (isList_ext hl e) (by rw [List.size_toArray, rs.length]; (walk_at "my om")) ?_
  refine ⟨.tok s _, ?_⟩
  rw [List.size_toArray, rs.length]; exact .mkInt _ _
theorem K_len_str {x : Str} (hsz : x.length < 2 ^ 62) : CallTo w A h (.builtin "len") [.str x] (.int x.length) := by
  intro h' k vs r s e
  obtain ⟨a, rfl, ra⟩ := reps1 r
  obtain ⟨t, rfl⟩ := rep_str ra
  refine SBL.len (by (walk_at "my om")) ?_
  exact ⟨.tok s _, .mkInt _ _⟩
/-- two lists one behind the other -/
theorem B_add_list {xs ys : List PV} (hsz : xs.length + ys.length ≤ sizeLine) : BinTo w A h .Add (.list xs) (.list ys) (.list (xs ++ ys)) := by
  intro h' _ u v hu hv s e
  obtain ⟨a, us, rfl, ha, ra⟩ := rep_list hu
  obtain ⟨b, vs, rfl, hb, rb⟩ := rep_list hv
  obtain ⟨⟨cls, dd, data, sl⟩, ho, hc, n, hd⟩ := isList_ext ha e
  obtain ⟨⟨cls2, dd2, data2, sl2⟩, ho2, hc2, n2, hd2⟩ := isList_ext hb e
  simp only at hc hd hc2 hd2
  subst hc hd hc2 hd2
  have e' : us.toArray ++ vs.toArray = (us ++ vs).toArray := by simp
  refine concat_meets ⟨_, ho, rfl⟩ ⟨_, ho2, rfl⟩ noFill_list_add seq_list_add PySem.F.slot_list_add PySem.F.entry_list_add (PySem.F.args_list_add_2 _ _) (list_addW a b us.toArray vs.toArray n n2 dd dd2 sl sl2 (by simpa [ra.length, rb.length] using hsz)) ⟨ho, ho2, ?_⟩
  rw [e']
  have k := Ext.push s.heap { cls := .type "list", data := .seq (us ++ vs).toArray }
  exact ⟨.heap' k, .mkList ⟨_, Heap.get?_push_size _ rfl, rfl, _, rfl⟩ (Reps.mono k _ _ (Reps.append (Reps.mono e _ _ ra) (Reps.mono e _ _ rb)))⟩

noncomputable def iL (ns : List Int) : List PV := ns.map PV.int
theorem intsAre_of {h : Heap} : ∀ {ns : List Int} {vs : List Value}, Reps h (iL ns) vs → IntsAre vs ns
  | [], vs, r => by simp only [iL, List.map_nil, Reps] at r; subst r; exact .nil
  | n :: ns, vs, r => by
    simp only [iL, List.map_cons, Reps] at r
    obtain ⟨v, us, rfl, rv, rs⟩ := r
    obtain ⟨t, rfl⟩ := rep_int rv
    exact .cons n t (intsAre_of rs)
theorem reps_ints {h : Heap} : ∀ {ns : List Int} {vs : List Value}, IntsAre vs ns → Reps h (iL ns) vs
  | _, _, .nil => .nil
  | _, _, .cons n t r => .cons (.mkInt n t) (reps_ints r)
/-- iL at a list, as the walks want them -/
theorem intItems_of {h : Heap} : ∀ {ns : List Int} {vs : List Value}, Reps h (iL ns) vs → ∃ xs : Array (Int × Tok), vs.toArray = intItems xs ∧ xs.toList.map (·.1) = ns
  | [], vs, r => by simp only [iL, List.map_nil, Reps] at r; subst r; exact ⟨#[], by simp [intItems], rfl⟩
  | n :: ns, vs, r => by
    simp only [iL, List.map_cons, Reps] at r
    obtain ⟨v, us, rfl, rv, rs⟩ := r
    obtain ⟨t, rfl⟩ := rep_int rv
    obtain ⟨xs, e1, e2⟩ := intItems_of rs
    refine ⟨((n, t) :: xs.toList).toArray, ?_, by simp [e2]⟩
    unfold intItems at e1 ⊢
    have e3 : us = (xs.map fun p => Value.int p.1 p.2).toList := by rw [← e1]
    simp [e3]
theorem numAt_of {xs : Array (Int × Tok)} {ns : List Int} (e : xs.toList.map (·.1) = ns) (i : Nat) : numAt xs i = ns.getD i 0 := by
  subst e
  unfold numAt
  rw [List.getD_eq_getElem?_getD, List.getElem?_map, Array.getElem?_toList]
theorem preSum_of (f : Nat → Int) (ns : List Int) (hf : ∀ i, f i = ns.getD i 0) : ∀ k, preSum f k = (ns.take k).sum
  | 0 => by simp [preSum]
  | k + 1 => by
    rw [preSum, preSum_of f ns hf k, hf k, PySem.sum_take_succ]

theorem K_sum {ns : List Int} (hA : A.handled = none) : CallTo w A h (.builtin "sum") [.list (iL ns)] (.int ns.sum) := by
  intro h' k vs r s e
  obtain ⟨a, rfl, ra⟩ := reps1 r
  obtain ⟨l, us, rfl, hl, rs⟩ := rep_list ra
  obtain ⟨xs, e1, e2⟩ := intItems_of rs
  have hl' := isList_ext hl e
  rw [e1] at hl'
  refine sum_intListG hA hl' fun h'' tk t' kk => ⟨.heap kk _, ?_⟩
  have : preSum (numAt xs) xs.size = ns.sum := by
    rw [preSum_of _ ns (numAt_of e2), List.take_of_length_le (by rw [← e2]; simp)]
  rw [this]; exact .mkInt _ _

/-- the greatest, the least -/
theorem K_maxl {ns : List Int} {M : Int} (hA : A.handled = none) (h1 : M ∈ ns) (h2 : ∀ a ∈ ns, a ≤ M) : CallTo w A h (.builtin "max") [.list (iL ns)] (.int M) := by
  intro h' k vs r s e
  obtain ⟨a, rfl, ra⟩ := reps1 r
  obtain ⟨l, us, rfl, hl, rs⟩ := rep_list ra
  obtain ⟨xs, e1, e2⟩ := intItems_of rs
  have hl' := isList_ext hl e
  rw [e1] at hl'
  have hsz : 0 < xs.size := by
    have := List.length_pos_of_mem h1
    rw [← e2] at this; simpa using this
  refine max_intList hA hl' hsz fun v h'' tk hv kk => ⟨.heap kk _, ?_⟩
  obtain ⟨t, rfl⟩ := intItems_at hv
  obtain ⟨g1, g2⟩ := argBest_gt (numAt xs) (xs.size - 1)
  have hm : numAt xs (argBest (fun i j => decide (numAt xs i > numAt xs j)) (xs.size - 1)) = M := by
    have hin : numAt xs (argBest (fun i j => decide (numAt xs i > numAt xs j)) (xs.size - 1)) ∈ ns := by
      rw [numAt_of e2]
      rw [List.getD_eq_getElem?_getD, List.getElem?_eq_getElem (by have g3 := g1; rw [← e2]; simp only [List.length_map, Array.length_toList]; exact Nat.lt_of_le_of_lt g3 (Nat.sub_lt hsz Nat.one_pos))]
      exact List.getElem_mem _
    obtain ⟨j, hj, e3⟩ := List.getElem_of_mem h1
    have := g2 j (by rw [← e2] at hj; simp at hj; exact Nat.le_sub_one_of_lt hj)
    rw [numAt_of e2 j, List.getD_eq_getElem?_getD, List.getElem?_eq_getElem hj] at this
    have h3 := h2 _ hin
    simp only [Option.getD_some, e3] at this
    (walk_at "my om")
  rw [hm]; exact .mkInt _ _
theorem K_minl {ns : List Int} {M : Int} (hA : A.handled = none) (h1 : M ∈ ns) (h2 : ∀ a ∈ ns, M ≤ a) : CallTo w A h (.builtin "min") [.list (iL ns)] (.int M) := by
  intro h' k vs r s e
  obtain ⟨a, rfl, ra⟩ := reps1 r
  obtain ⟨l, us, rfl, hl, rs⟩ := rep_list ra
  obtain ⟨xs, e1, e2⟩ := intItems_of rs
  have hl' := isList_ext hl e
  rw [e1] at hl'
  have hsz : 0 < xs.size := by
    have := List.length_pos_of_mem h1
    rw [← e2] at this; simpa using this
  refine min_intList hA hl' hsz fun v h'' tk hv kk => ⟨.heap kk _, ?_⟩
  obtain ⟨t, rfl⟩ := intItems_at hv
  obtain ⟨g1, g2⟩ := argBest_lt (numAt xs) (xs.size - 1)
  have hm : numAt xs (argBest (fun i j => decide (numAt xs i < numAt xs j)) (xs.size - 1)) = M := by
    have hin : numAt xs (argBest (fun i j => decide (numAt xs i < numAt xs j)) (xs.size - 1)) ∈ ns := by
      rw [numAt_of e2]
      rw [List.getD_eq_getElem?_getD, List.getElem?_eq_getElem (by have g3 := g1; rw [← e2]; simp only [List.length_map, Array.length_toList]; exact Nat.lt_of_le_of_lt g3 (Nat.sub_lt hsz Nat.one_pos))]
      exact List.getElem_mem _
    obtain ⟨j, hj, e3⟩ := List.getElem_of_mem h1
    have := g2 j (by rw [← e2] at hj; simp at hj; exact Nat.le_sub_one_of_lt hj)
    rw [numAt_of e2 j, List.getD_eq_getElem?_getD, List.getElem?_eq_getElem hj] at this
    have h3 := h2 _ hin
    simp only [Option.getD_some, e3] at this
    (walk_at "my om")
  rw [hm]; exact .mkInt _ _
/-- sorted: some ordering of the iL; there is but one -/
theorem K_sorted {ns ms : List Int} (hlen : ns.length < 64) (hp : ms.Perm ns) (hs : ms.Pairwise (· ≤ ·)) : CallTo w A h (.builtin "sorted") [.list (iL ns)] (.list (iL ms)) := by
  intro h' k vs r s e
  obtain ⟨a, rfl, ra⟩ := reps1 r
  obtain ⟨l, us, rfl, hl, rs⟩ := rep_list ra
  refine sorted_ints (isList_ext hl e) (intsAre_of rs) (by rw [rs.length]; simpa [iL] using hlen) fun out ns' hI hperm hsort => ?_
  obtain ⟨e', he⟩ := sortedAll_at s.heap us out
  have kk : Ext s.heap (sortedAll s.heap us out) := fun b o q => sortedAll_old q
  have : ns' = ms := (hperm.trans hp.symm).eq_of_pairwise (fun a b _ _ h1 h2 => Int.le_antisymm h1 h2) hsort hs
  subst this
  exact ⟨.heap' kk, .mkList (vs := out.toList) ⟨_, he, rfl, _, rfl⟩ (reps_ints hI)⟩
/-- an int in a list of iL -/
theorem C_in_ints {ns : List Int} {k : Int} : CmpTo w A h .In (.int k) (.list (iL ns)) (ns.any (· == k)) := by
  intro h' _ u v hu hv s e
  obtain ⟨t, rfl⟩ := rep_int hu
  obtain ⟨l, us, rfl, hl, rs⟩ := rep_list hv
  exact in_list_ints (isList_ext hl e) (intsAre_of rs) ⟨.refl s, rfl⟩
theorem C_eq_ints {ns ms : List Int} (hu : A.units + 64 < cLine) : CmpTo w A h .Eq (.list (iL ns)) (.list (iL ms)) (decide (ns = ms)) := by
  intro h' _ u v hu' hv s e
  obtain ⟨l, us, rfl, hl, rs⟩ := rep_list hu'
  obtain ⟨l', us', rfl, hl', rs'⟩ := rep_list hv
  exact eq_intsK (isList_ext hl e) (intsAre_of rs) (isList_ext hl' e) (intsAre_of rs') hu ⟨.refl s, rfl⟩
theorem C_ne_ints {ns ms : List Int} (hu : A.units + 64 < cLine) : CmpTo w A h .NotEq (.list (iL ns)) (.list (iL ms)) (!decide (ns = ms)) := by
  intro h' _ u v hu' hv s e
  obtain ⟨l, us, rfl, hl, rs⟩ := rep_list hu'
  obtain ⟨l', us', rfl, hl', rs'⟩ := rep_list hv
  exact ne_intsK (isList_ext hl e) (intsAre_of rs) (isList_ext hl' e) (intsAre_of rs') hu ⟨.refl s, rfl⟩
end
end
section
theorem sub_of {l ρ : List (Str × PV)} (k : ∀ q ∈ l, ρ.lookup q.1 = some q.2) : ∀ x pv, l.lookup x = some pv → ρ.lookup x = some pv := fun _ _ e => k _ (mem_of_lookup e)

theorem mid_ok {lo hi : Nat} (h : lo < hi) : lo ≤ (lo + hi) / 2 ∧ (lo + hi) / 2 < hi := by (walk_at "my om")
theorem less_r {lo hi m : Nat} (h0 : lo ≤ m) (hm : m < hi) : hi - (m + 1) < hi - lo := Nat.sub_lt_sub_left (Nat.lt_of_le_of_lt h0 hm) (Nat.lt_succ_of_le h0)
/-- the place that a bisection finds: P tells to go to the left -/
noncomputable def bis (P : Nat → Bool) (lo hi : Nat) : Nat :=
  if lo < hi then (if P ((lo + hi) / 2) then bis P lo ((lo + hi) / 2) else bis P ((lo + hi) / 2 + 1) hi) else lo
termination_by hi - lo
decreasing_by all_goals (have h : lo < hi := by assumption); first | exact Nat.sub_lt_sub_right (mid_ok h).1 (mid_ok h).2 | exact less_r (mid_ok h).1 (mid_ok h).2

theorem bis_spec (P : Nat → Bool) : ∀ (k lo hi : Nat), hi - lo ≤ k → lo ≤ hi → (∀ i j, lo ≤ i → i ≤ j → j < hi → P i = true → P j = true) →
    lo ≤ bis P lo hi ∧ bis P lo hi ≤ hi ∧ (∀ i, lo ≤ i → i < bis P lo hi → P i = false) ∧ (∀ i, bis P lo hi ≤ i → i < hi → P i = true)
  | 0, lo, hi, hk, hle, _ => by
    have : lo = hi := Nat.le_antisymm hle (Nat.le_of_sub_eq_zero (Nat.le_zero.mp hk))
    subst this
    rw [bis, if_neg (Nat.lt_irrefl _)]
    exact ⟨Nat.le_refl _, Nat.le_refl _, fun i h1 h2 => absurd h1 (Nat.not_le.mpr h2), fun i h1 h2 => absurd h1 (Nat.not_le.mpr h2)⟩
  | k + 1, lo, hi, hk, hle, mono => by
    rw [bis]
    by_cases hlt : lo < hi
    · rw [if_pos hlt]
      have hm := mid_ok hlt
      obtain ⟨hm1, hm2⟩ := mid_ok hlt
      have hm3 := Nat.le_of_lt hm2
      cases hp : P ((lo + hi) / 2) with
      | true =>
        rw [if_pos rfl]
        obtain ⟨a, b, c, d⟩ := bis_spec P k lo ((lo + hi) / 2) (Nat.le_of_lt_succ (Nat.lt_of_lt_of_le (Nat.sub_lt_sub_right hm.1 hm.2) hk)) hm.1 (fun i j h1 h2 h3 => mono i j h1 h2 (Nat.lt_trans h3 hm.2))
        refine ⟨a, Nat.le_trans b (Nat.le_of_lt hm.2), c, fun i h1 h2 => ?_⟩
        rcases Nat.lt_or_ge i ((lo + hi) / 2) with q | q
        · exact d i h1 q
        · exact mono _ i hm.1 q h2 hp
      | false =>
        rw [if_neg Bool.false_ne_true]
        obtain ⟨a, b, c, d⟩ := bis_spec P k ((lo + hi) / 2 + 1) hi (Nat.le_of_lt_succ (Nat.lt_of_lt_of_le (less_r hm.1 hm.2) hk)) hm.2 (fun i j h1 h2 h3 => mono i j (Nat.le_trans (Nat.le_succ_of_le hm.1) h1) h2 h3)
        refine ⟨Nat.le_trans (Nat.le_succ_of_le hm.1) a, b, fun i h1 h2 => ?_, d⟩
        rcases Nat.lt_or_ge ((lo + hi) / 2) i with q | q
        · exact c i q h2
        · cases hq : P i with
          | false => rfl
          | true => rw [mono i _ h1 q hm.2 hq] at hp; cases hp
    · rw [if_neg hlt]
      exact ⟨Nat.le_refl _, hle, fun i h1 h2 => absurd h1 (Nat.not_le.mpr h2), fun i h1 h2 => absurd (Nat.lt_of_le_of_lt h1 h2) hlt⟩

section
variable {w : World} {A : Around} {env : Env} {n : Nat} {h₀ h : Heap} {ρ : List (Str × PV)}
theorem C_is_none {x : PV} {b : Bool} (hb : ∀ h v, Rep h x v → (v == Value.none) = b) : CmpTo w A h .Is x .none b := by
  intro h' _ u v hu hv s e
  rw [rep_none hv]
  refine is_none_gen ?_
  exact ⟨.refl s, by rw [hb _ _ hu]⟩
theorem isn_none : ∀ h v, Rep h .none v → (v == Value.none) = true := fun h v r => by rw [rep_none r]; rfl
theorem isn_int {i : Int} : ∀ h v, Rep h (.int i) v → (v == Value.none) = false := fun h v r => by obtain ⟨t, rfl⟩ := rep_int r; rfl
theorem isn_obj {i : Addr} : ∀ h v, Rep h (.obj i) v → (v == Value.none) = false := fun h v r => by rw [rep_obj r]; rfl

/-- a call with defaults and keywords, what is bound told by a function of the values -/
noncomputable def CallKw (w : World) (A : Around) (h : Heap) (f : Value) (pvs : List PV) (kws : List (Str × PV)) (r : PV) : Prop :=
  ∀ h', Ext h h' → ∀ vs kvs, Reps h' pvs vs → Reps h' (kws.map (·.2)) kvs → Ev w A (call f vs ((kws.map (·.1)).zip kvs)) h' fun v h'' => Rep h'' r v
theorem CallKw.plain {f : Value} {pvs : List PV} {r : PV} (c : CallKw w A h f pvs [] r) : CallTo w A h f pvs r := fun h' k vs rs => c h' k vs [] rs .nil

theorem Call_defB {name qual : Str} {params : Arguments} {body : List Stmt} {scope : Scope} {dV kV doc pm cdv ct oc : Value} {an od : Option Addr} {osl : Array (Option Value)} {f : Addr} {pvs : List PV} {kws : List (Str × PV)} {r : PV} {names : List Str} {all : List PV}
    (g : Glo w h) (rm : Rm A n) (hn : n ≤ 99)
    (ho : (kK w.params).lookup f = some ⟨oc, od, .func (fnOf name qual params body scope dV kV doc pm an cdv ct), osl⟩) (hcd : codeIn (kK w.params) cdv qual = true)
    (hbind : ∀ (s : Shared) (vs kvs : List Value), (kK w.params).In s.heap → Reps s.heap pvs vs → Reps s.heap (kws.map (·.2)) kvs → ∃ us, Reps s.heap all us ∧ BindsTo s (fnOf name qual params body scope dV kV doc pm an cdv ct) ⟨vs, (kws.map (·.1)).zip kvs⟩ (names.zip us))
    (hloc : (names.all fun x => decide (scope.names.lookup x = some .local)) = true)
    (hco : scope.isCoroutine = false) (hgen : scope.isGenerator = false) (hk : scope.kind = .function) (hcell : (scope.names.all fun x => x.2 != .cell) = true)
    (hrev : names.Nodup)
    (b : ∀ h₀ L, Ext h h₀ → Body w (A.deeper (envOf qual scope L f cdv)) (envOf qual scope L f cdv) (n + 1) h₀ (names.zip all) body r) : CallKw w A h (.ref f) pvs kws r := by
  intro h' k vs kvs rs ks s e
  have hs : Ext h s.heap := k.trans e
  have G := g.mono hs
  obtain ⟨us, rs', hb⟩ := hbind s vs kvs G.X (Reps.mono e _ _ rs) (Reps.mono e _ _ ks)
  refine wpAny_call ?_
  refine codeAny_call_def (fd := fnOf name qual params body scope dV kV doc pm an cdv ct) (body := body) (binds := names.zip us) (rm.room (by (walk_at "my om"))) (G.X _ _ ho) rfl G.L (codeRec_of G.X hcd) rfl hb ?_ ?_ (fun h₁ hns hk₁ => ?_) hco hgen hk
  · intro x hx
    have := List.all_eq_true.mp hcell x hx
    simpa using this
  · intro x hx
    have := List.all_eq_true.mp hloc x.1 (List.of_mem_zip hx).1
    exact of_decide_eq_true this
  · have F : Frm w (A.deeper (envOf qual scope s.heap.objs.size f cdv)) (envOf qual scope s.heap.objs.size f cdv) (n + 1) s.heap (names.zip all) h₁ :=
      { rm := rm.deeper _, hn := by (walk_at "my om"), fn := hk, eg := rfl, eb := rfl, glo0 := G, ext := hk₁, above := Nat.le_refl _, ns := ⟨_, hns⟩,
        cells := fun x c e => (by cases e), apart := fun x y c e => (by cases e),
        look := fun x pv hx => by
          obtain ⟨v, r1, r2⟩ := repsLookup rs' x pv hx
          refine ⟨v, Rep.mono hk₁ _ _ r1, .inl ⟨?_, _, hns, ?_⟩⟩
          · have hm := mem_of_lookup r2
            exact of_decide_eq_true (List.all_eq_true.mp hloc x (List.of_mem_zip hm).1)
          · rw [lookup_rev hrev]; exact r2 }
    refine wpAny_mono (b s.heap s.heap.objs.size hs { s with heap := h₁, toks := s.toks + (names.zip us).length } F) (fun f s' x => ?_) fun _ _ x => x.elim
    obtain ⟨v, rfl, g1, g2, g3⟩ := x
    show Grows s s' ∧ Rep s'.heap r v
    refine ⟨?_, g3⟩
    obtain ⟨hh, tk, rfl⟩ := g1
    exact ⟨hh, tk, rfl, g2⟩
end


noncomputable def canB (xs : List PV) (x key : PV) (lo hi : Nat) : List (Str × PV) := [("a", .list xs), ("x", x), ("lo", .int lo), ("hi", .int hi), ("key", key)]
theorem CallTo.at {w : World} {A : Around} {h h' : Heap} {f : Value} {pvs : List PV} {r : PV} (c : CallTo w A h f pvs r) (k : Ext h h') : CallTo w A h' f pvs r := fun h2 k2 => c h2 (k.trans k2)
theorem Kept.at {w : World} {h h' : Heap} {f : Value} (c : Kept w h f) (k : Ext h h') : Kept w h' f := fun h2 k2 => c h2 (k.trans k2)
theorem E_CallObj {w : World} {A : Around} {env : Env} {h : Heap} {x : Str} {p pos : Pos} {es : List PySem.Expr} {f : Addr} {pvs : List PV} {r : PV} (hx : EvalsTo w A env h (.Name x p) (.obj f)) (hk : Kept w h (.ref f)) (hargs : ArgsTo w A env h pos es pvs) (hc : CallTo w A h (.ref f) pvs r)
    (hn : (es.all fun e => !isStarred e) = true) (hplain : (backTo pos (starEach es env)).any (·.1) = false) : EvalsTo w A env h (.Call (.Name x p) es [] pos) r := by
  refine E_Call (f := .ref f) (Ev.imp hx fun v h' _ e => rep_obj e) hk hargs hc ?_ hplain rfl
  intro e he
  simpa using List.all_eq_true.mp hn e he
theorem mid_eq (lo hi : Nat) : ((lo : Int) + (hi : Int)) / 2 = (((lo + hi) / 2 : Nat) : Int) := by (walk_at "my om")

theorem bisect_rightB_spec : ∀ {w : World} {A : Around} {h : Heap} {n : Nat} (g : Glo w h) (rm : Rm A n) (hn : n ≤ 99) (ns : List Int) (hsz : ns.length < 2 ^ 60) (x : Int) (four : Bool),
   CallTo w A h (.ref 32) (bif four then [.list (iL ns), .int x, .int 0, .none] else [.list (iL ns), .int x]) (.int (bis (fun i => decide (x < ns.getD i 0)) 0 ns.length)) := by
  have : (PySem.Challenge.rw_pg0232_01, kK) = (PySem.Challenge.rw_pg0232_01, kK) := rfl
  revert this
  k_fill
  intro _ w A h n g rm hn ns hsz x four
  refine CallKw.plain ?_
  refine' Call_defB (names := ["a", "x", "lo", "hi", "key"]) (all := [.list (iL ns), .int x, .int ((0 : Nat) : Int), .none, .none]) g rm hn ?k1z ?k2z ?k3z ?k4z ?k5z ?k6z ?k7z ?k8z ?k9z ?k10z
  case k1z => k_is
  case k2z => k_is
  case k3z =>
    intro s vs kvs X rs ks
    simp only [List.map_nil, Reps] at ks
    subst ks
    cases four with
    | false =>
      obtain ⟨a, b, rfl, ra, rb⟩ := reps2 rs
      refine' ⟨[a, b, .int 0 ?ttz, .none, .none], .cons ra (.cons rb (.cons (.mkInt _ _) (.cons .mkNone (.cons .mkNone .nil)))), ?b1z⟩
      case b1z =>
        refine kp_binds X fun S => ?_
        exact rfl
    | true =>
      obtain ⟨a, b, c, d, rfl, ra, rb, rc, rd⟩ := reps4 rs
      refine ⟨[a, b, c, d, .none], .cons ra (.cons rb (.cons rc (.cons rd (.cons .mkNone .nil)))), ?_⟩
      refine kp_binds X fun S => ?_
      exact rfl
  case k4z => with_unfolding_all exact rfl
  case k5z => rfl
  case k6z => rfl
  case k7z => rfl
  case k8z => with_unfolding_all exact rfl
  case k9z => decide
  case k10z =>
    intro h₀ L k
    refine Body.ofBlk ?_
    walk_at "my st"
    · rename_i hb; exact absurd (of_decide_eq_true hb) (by (walk_at "my om"))
    walk_at "my st"
    refine Bk_if (b := true) (fun h F => T_Compare (x := .none) (y := .none) (by walk_at "my ev") E_None (C_is_none isn_none) (by with_unfolding_all exact rfl)) (fun _ => ?_) (fun q => by cases q)
    refine Bk_assign (pv := .int ns.length) (fun h F => ?_) (.inl (by with_unfolding_all exact rfl)) (by with_unfolding_all exact rfl) ?_
    · have hl : (iL ns).length = ns.length := by simp [iL]
      rw [← hl]
      exact E_CallB F.sit (by with_unfolding_all exact rfl) (no_len _) bt_len (.inl ⟨_, rfl⟩) (by decide) (by decide) (A_cons (by walk_at "my ev") A_nil (by with_unfolding_all exact rfl)) (K_len_list (by rw [hl]; (walk_at "my om"))) (by with_unfolding_all exact rfl) (by with_unfolding_all exact rfl)
    walk_at "my st"
    refine Bk_if (b := true) (fun h F => T_Compare (x := .none) (y := .none) (by walk_at "my ev") E_None (C_is_none isn_none) (by with_unfolding_all exact rfl)) (fun _ => ?_) (fun q => by cases q)
    refine Bk_while (fun m ρ' => ∃ lo hi, m = hi - lo ∧ lo ≤ hi ∧ hi ≤ ns.length ∧ 0 ≤ lo ∧ bis (fun i => decide (x < ns.getD i 0)) lo hi = bis (fun i => decide (x < ns.getD i 0)) 0 ns.length ∧ ∀ y pv, (canB (iL ns) (.int x) (.none) lo hi).lookup y = some pv → ρ'.lookup y = some pv) (ns.length - 0)
      ⟨0, ns.length, rfl, by (walk_at "my om"), by (walk_at "my om"), by (walk_at "my om"), rfl, by ((refine sub_of ?_; walk_at "my lk"))⟩ ?_
    rintro m ρ' ⟨lo, hi, rfl, hlh, hhi, _, hbis, hsub⟩
    refine ⟨decide ((lo : Int) < hi), fun h F => ?_, fun hb => ?_, fun hb => ?_⟩
    · have F := F.sub hsub
      unfold canB at F
      walk_at "my test"
    · have hlt : lo < hi := by have := of_decide_eq_true hb; (walk_at "my om")
      refine Bk_sub hsub ?_
      unfold canB
      refine Bk_assign (pv := .int (((lo + hi) / 2 : Nat) : Int)) (fun h F => ?_) (.inl (by with_unfolding_all exact rfl)) (by with_unfolding_all exact rfl) ?_
      · rw [← mid_eq]; walk_at "my ev"
      have hm := mid_ok hlt
      obtain ⟨hm1, hm2⟩ := mid_ok hlt
      have hm3 := Nat.le_of_lt hm2
      have hget : (iL ns)[((((lo + hi) / 2 : Nat) : Int)).toNat]? = some (.int (ns.getD ((lo + hi) / 2) 0)) := by
        rw [Int.toNat_natCast, iL, List.getElem?_map, List.getElem?_eq_getElem (by (walk_at "my om")), List.getD_eq_getElem?_getD, List.getElem?_eq_getElem (by (walk_at "my om"))]; rfl
      refine Bk_if (b := decide (x < ns.getD ((lo + hi) / 2) 0)) (fun h F => T_Compare (x := .int x) (y := .int (ns.getD ((lo + hi) / 2) 0)) (by walk_at "my ev") (E_Item (x := .list (iL ns)) (y := .int (((lo + hi) / 2 : Nat) : Int)) (by walk_at "my ev") (by walk_at "my ev") (G_list (by (walk_at "my om")) (by (walk_at "my om")) hget)) C_lt_int (by with_unfolding_all exact rfl)) (fun hb => ?_) (fun hb => ?_)
      · have hP := hb
        refine Bk_assign (pv := .int (((lo + hi) / 2 : Nat) : Int)) (fun h F => by walk_at "my ev") (.inl (by with_unfolding_all exact rfl)) (by with_unfolding_all exact rfl) ?_
        refine Bk_nil (Bk_nil ⟨_, ?_, lo, (lo + hi) / 2, rfl, hm.1, by (walk_at "my om"), by (walk_at "my om"), ?_, ?_⟩)
        · first | exact less_r hm1 hm2 | exact Nat.sub_lt_sub_right hm1 hm2
        · rw [← hbis]; conv => rhs; rw [bis, if_pos hlt, if_pos hP]
        · ((refine sub_of ?_; walk_at "my lk"))
      · have hP := hb
        refine Bk_assign (pv := .int (((lo + hi) / 2 + 1 : Nat) : Int)) (fun h F => ?_) (.inl (by with_unfolding_all exact rfl)) (by with_unfolding_all exact rfl) ?_
        · rw [Int.natCast_succ]; walk_at "my ev"
        refine Bk_nil (Bk_nil ⟨_, ?_, (lo + hi) / 2 + 1, hi, rfl, hm2, hhi, by (walk_at "my om"), ?_, ?_⟩)
        · first | exact less_r hm1 hm2 | exact Nat.sub_lt_sub_right hm1 hm2
        · rw [← hbis]; conv => rhs; rw [bis, if_pos hlt, if_neg (by rw [hP]; exact Bool.false_ne_true)]
        · ((refine sub_of ?_; walk_at "my lk"))
    · have hge : ¬ lo < hi := by have := of_decide_eq_false hb; (walk_at "my om")
      refine Bk_sub hsub ?_
      unfold canB
      refine Bk_nil ?_
      rw [← hbis, bis, if_neg hge]
      walk_at "my st"

theorem bisect_right_spec {w : World} {A : Around} {h : Heap} {n : Nat} (g : Glo w h) (rm : Rm A n) (hn : n ≤ 99) (ns : List Int) (hsz : ns.length < 2 ^ 60) (x : Int) :
   CallTo w A h (.ref 32) [.list (iL ns), .int x] (.int (bis (fun i => decide (x < ns.getD i 0)) 0 ns.length)) := bisect_rightB_spec g rm hn ns hsz x false
theorem bisect_right4_spec {w : World} {A : Around} {h : Heap} {n : Nat} (g : Glo w h) (rm : Rm A n) (hn : n ≤ 99) (ns : List Int) (hsz : ns.length < 2 ^ 60) (x : Int) :
   CallTo w A h (.ref 32) [.list (iL ns), .int x, .int 0, .none] (.int (bis (fun i => decide (x < ns.getD i 0)) 0 ns.length)) := bisect_rightB_spec g rm hn ns hsz x true

theorem bisect_left_spec : ∀ {w : World} {A : Around} {h : Heap} {n : Nat} (g : Glo w h) (rm : Rm A n) (hn : n ≤ 99) (ns : List Int) (hsz : ns.length < 2 ^ 60) (x : Int),
   CallTo w A h (.ref 41) [.list (iL ns), .int x] (.int (bis (fun i => !decide (ns.getD i 0 < x)) 0 ns.length)) := by
  have : (PySem.Challenge.rw_pg0232_01, kK) = (PySem.Challenge.rw_pg0232_01, kK) := rfl
  revert this
  k_fill
  intro _ w A h n g rm hn ns hsz x
  refine CallKw.plain ?_
  refine' Call_defB (names := ["a", "x", "lo", "hi", "key"]) (all := [.list (iL ns), .int x, .int ((0 : Nat) : Int), .none, .none]) g rm hn ?k1z ?k2z ?k3z ?k4z ?k5z ?k6z ?k7z ?k8z ?k9z ?k10z
  case k1z => k_is
  case k2z => k_is
  case k3z =>
    intro s vs kvs X rs ks
    simp only [List.map_nil, Reps] at ks
    subst ks
    obtain ⟨a, b, rfl, ra, rb⟩ := reps2 rs
    refine' ⟨[a, b, .int 0 ?ttz, .none, .none], .cons ra (.cons rb (.cons (.mkInt _ _) (.cons .mkNone (.cons .mkNone .nil)))), ?b1z⟩
    case b1z =>
      refine kp_binds X fun S => ?_
      exact rfl
  case k4z => with_unfolding_all exact rfl
  case k5z => rfl
  case k6z => rfl
  case k7z => rfl
  case k8z => with_unfolding_all exact rfl
  case k9z => decide
  case k10z =>
    intro h₀ L k
    refine Body.ofBlk ?_
    walk_at "my st"
    · rename_i hb; exact absurd (of_decide_eq_true hb) (by (walk_at "my om"))
    walk_at "my st"
    refine Bk_if (b := true) (fun h F => T_Compare (x := .none) (y := .none) (by walk_at "my ev") E_None (C_is_none isn_none) (by with_unfolding_all exact rfl)) (fun _ => ?_) (fun q => by cases q)
    refine Bk_assign (pv := .int ns.length) (fun h F => ?_) (.inl (by with_unfolding_all exact rfl)) (by with_unfolding_all exact rfl) ?_
    · have hl : (iL ns).length = ns.length := by simp [iL]
      rw [← hl]
      exact E_CallB F.sit (by with_unfolding_all exact rfl) (no_len _) bt_len (.inl ⟨_, rfl⟩) (by decide) (by decide) (A_cons (by walk_at "my ev") A_nil (by with_unfolding_all exact rfl)) (K_len_list (by rw [hl]; (walk_at "my om"))) (by with_unfolding_all exact rfl) (by with_unfolding_all exact rfl)
    walk_at "my st"
    refine Bk_if (b := true) (fun h F => T_Compare (x := .none) (y := .none) (by walk_at "my ev") E_None (C_is_none isn_none) (by with_unfolding_all exact rfl)) (fun _ => ?_) (fun q => by cases q)
    refine Bk_while (fun m ρ' => ∃ lo hi, m = hi - lo ∧ lo ≤ hi ∧ hi ≤ ns.length ∧ 0 ≤ lo ∧ bis (fun i => !decide (ns.getD i 0 < x)) lo hi = bis (fun i => !decide (ns.getD i 0 < x)) 0 ns.length ∧ ∀ y pv, (canB (iL ns) (.int x) (.none) lo hi).lookup y = some pv → ρ'.lookup y = some pv) (ns.length - 0)
      ⟨0, ns.length, rfl, by (walk_at "my om"), by (walk_at "my om"), by (walk_at "my om"), rfl, by ((refine sub_of ?_; walk_at "my lk"))⟩ ?_
    rintro m ρ' ⟨lo, hi, rfl, hlh, hhi, _, hbis, hsub⟩
    refine ⟨decide ((lo : Int) < hi), fun h F => ?_, fun hb => ?_, fun hb => ?_⟩
    · have F := F.sub hsub
      unfold canB at F
      walk_at "my test"
    · have hlt : lo < hi := by have := of_decide_eq_true hb; (walk_at "my om")
      refine Bk_sub hsub ?_
      unfold canB
      refine Bk_assign (pv := .int (((lo + hi) / 2 : Nat) : Int)) (fun h F => ?_) (.inl (by with_unfolding_all exact rfl)) (by with_unfolding_all exact rfl) ?_
      · rw [← mid_eq]; walk_at "my ev"
      have hm := mid_ok hlt
      obtain ⟨hm1, hm2⟩ := mid_ok hlt
      have hm3 := Nat.le_of_lt hm2
      have hget : (iL ns)[((((lo + hi) / 2 : Nat) : Int)).toNat]? = some (.int (ns.getD ((lo + hi) / 2) 0)) := by
        rw [Int.toNat_natCast, iL, List.getElem?_map, List.getElem?_eq_getElem (by (walk_at "my om")), List.getD_eq_getElem?_getD, List.getElem?_eq_getElem (by (walk_at "my om"))]; rfl
      refine Bk_if (b := decide (ns.getD ((lo + hi) / 2) 0 < x)) (fun h F => T_Compare (x := .int (ns.getD ((lo + hi) / 2) 0)) (y := .int x) (E_Item (x := .list (iL ns)) (y := .int (((lo + hi) / 2 : Nat) : Int)) (by walk_at "my ev") (by walk_at "my ev") (G_list (by (walk_at "my om")) (by (walk_at "my om")) hget)) (by walk_at "my ev") C_lt_int (by with_unfolding_all exact rfl)) (fun hb => ?_) (fun hb => ?_)
      · have hP : (!decide (ns.getD ((lo + hi) / 2) 0 < x)) = false := by rw [hb]; rfl
        refine Bk_assign (pv := .int (((lo + hi) / 2 + 1 : Nat) : Int)) (fun h F => ?_) (.inl (by with_unfolding_all exact rfl)) (by with_unfolding_all exact rfl) ?_
        · rw [Int.natCast_succ]; walk_at "my ev"
        refine Bk_nil (Bk_nil ⟨_, ?_, (lo + hi) / 2 + 1, hi, rfl, hm2, hhi, by (walk_at "my om"), ?_, ?_⟩)
        · first | exact less_r hm1 hm2 | exact Nat.sub_lt_sub_right hm1 hm2
        · rw [← hbis]; conv => rhs; rw [bis, if_pos hlt, if_neg (by rw [hP]; exact Bool.false_ne_true)]
        · ((refine sub_of ?_; walk_at "my lk"))
      · have hP : (!decide (ns.getD ((lo + hi) / 2) 0 < x)) = true := by rw [hb]; rfl
        refine Bk_assign (pv := .int (((lo + hi) / 2 : Nat) : Int)) (fun h F => by walk_at "my ev") (.inl (by with_unfolding_all exact rfl)) (by with_unfolding_all exact rfl) ?_
        refine Bk_nil (Bk_nil ⟨_, ?_, lo, (lo + hi) / 2, rfl, hm.1, by (walk_at "my om"), by (walk_at "my om"), ?_, ?_⟩)
        · first | exact less_r hm1 hm2 | exact Nat.sub_lt_sub_right hm1 hm2
        · rw [← hbis]; conv => rhs; rw [bis, if_pos hlt, if_pos hP]
        · ((refine sub_of ?_; walk_at "my lk"))
    · have hge : ¬ lo < hi := by have := of_decide_eq_false hb; (walk_at "my om")
      refine Bk_sub hsub ?_
      unfold canB
      refine Bk_nil ?_
      rw [← hbis, bis, if_neg hge]
      walk_at "my st"

theorem bisect_rightK_spec : ∀ {w : World} {A : Around} {h : Heap} {n : Nat} (g : Glo w h) (rm : Rm A n) (hn : n ≤ 99) (ns : List Int) (hsz : ns.length < 2 ^ 60) (kf : Addr) (kb : Nat → Bool) (p : Nat) (hp : p ≤ ns.length) (hkept : Kept w h (.ref kf)) (hkey : ∀ A', Rm A' (n + 1) → ∀ i, i < ns.length → CallTo w A' h (.ref kf) [.int (ns.getD i 0)] (.bool (kb i))),
   CallKw w A h (.ref 32) [.list (iL ns), .bool false, .int 0, .int p] [("key", .obj kf)] (.int (bis kb 0 p)) := by
  have : (PySem.Challenge.rw_pg0232_01, kK) = (PySem.Challenge.rw_pg0232_01, kK) := rfl
  revert this
  k_fill
  intro _ w A h n g rm hn ns hsz kf kb p hp hkept hkey
  refine' Call_defB (names := ["a", "x", "lo", "hi", "key"]) (all := [.list (iL ns), .bool false, .int ((0 : Nat) : Int), .int p, .obj kf]) g rm hn ?k1z ?k2z ?k3z ?k4z ?k5z ?k6z ?k7z ?k8z ?k9z ?k10z
  case k1z => k_is
  case k2z => k_is
  case k3z =>
    intro s vs kvs X rs ks
    obtain ⟨a, b, c, e, rfl, ra, rb, rc, re⟩ := reps4 rs
    obtain ⟨d, rfl, rd⟩ := reps1 ks
    refine ⟨[a, b, c, e, d], .cons ra (.cons rb (.cons rc (.cons re (.cons rd .nil)))), ?_⟩
    refine kp_binds X fun S => ?_
    exact rfl
  case k4z => with_unfolding_all exact rfl
  case k5z => rfl
  case k6z => rfl
  case k7z => rfl
  case k8z => with_unfolding_all exact rfl
  case k9z => decide
  case k10z =>
    intro h₀ L k
    refine Body.ofBlk ?_
    walk_at "my st"
    · rename_i hb; exact absurd (of_decide_eq_true hb) (by (walk_at "my om"))
    walk_at "my st"
    refine Bk_if (b := false) (fun h F => T_Compare (x := .int p) (y := .none) (by walk_at "my ev") E_None (C_is_none isn_int) (by with_unfolding_all exact rfl)) (fun q => by cases q) (fun _ => ?_)
    walk_at "my st"
    refine Bk_if (b := false) (fun h F => T_Compare (x := .obj kf) (y := .none) (by walk_at "my ev") E_None (C_is_none isn_obj) (by with_unfolding_all exact rfl)) (fun q => by cases q) (fun _ => ?_)
    refine Bk_while (fun m ρ' => ∃ lo hi, m = hi - lo ∧ lo ≤ hi ∧ hi ≤ ns.length ∧ 0 ≤ lo ∧ bis kb lo hi = bis kb 0 p ∧ ∀ y pv, (canB (iL ns) (.bool false) (.obj kf) lo hi).lookup y = some pv → ρ'.lookup y = some pv) (p - 0)
      ⟨0, p, rfl, by (walk_at "my om"), by (walk_at "my om"), by (walk_at "my om"), rfl, by ((refine sub_of ?_; walk_at "my lk"))⟩ ?_
    rintro m ρ' ⟨lo, hi, rfl, hlh, hhi, _, hbis, hsub⟩
    refine ⟨decide ((lo : Int) < hi), fun h F => ?_, fun hb => ?_, fun hb => ?_⟩
    · have F := F.sub hsub
      unfold canB at F
      walk_at "my test"
    · have hlt : lo < hi := by have := of_decide_eq_true hb; (walk_at "my om")
      refine Bk_sub hsub ?_
      unfold canB
      refine Bk_assign (pv := .int (((lo + hi) / 2 : Nat) : Int)) (fun h F => ?_) (.inl (by with_unfolding_all exact rfl)) (by with_unfolding_all exact rfl) ?_
      · rw [← mid_eq]; walk_at "my ev"
      have hm := mid_ok hlt
      obtain ⟨hm1, hm2⟩ := mid_ok hlt
      have hm3 := Nat.le_of_lt hm2
      have hget : (iL ns)[((((lo + hi) / 2 : Nat) : Int)).toNat]? = some (.int (ns.getD ((lo + hi) / 2) 0)) := by
        rw [Int.toNat_natCast, iL, List.getElem?_map, List.getElem?_eq_getElem (by (walk_at "my om")), List.getD_eq_getElem?_getD, List.getElem?_eq_getElem (by (walk_at "my om"))]; rfl
      refine Bk_if (b := !false && kb ((lo + hi) / 2)) (fun h F => T_Compare (x := .bool false) (y := .bool (kb ((lo + hi) / 2))) (by walk_at "my ev") (E_CallObj (f := kf) (pvs := [.int (ns.getD ((lo + hi) / 2) 0)]) (by walk_at "my ev") (hkept.at (k.trans F.ext)) (A_cons (E_Item (x := .list (iL ns)) (y := .int (((lo + hi) / 2 : Nat) : Int)) (by walk_at "my ev") (by walk_at "my ev") (G_list (by (walk_at "my om")) (by (walk_at "my om")) hget)) A_nil (by with_unfolding_all exact rfl)) ((hkey _ F.rm _ (by (walk_at "my om"))).at (k.trans F.ext)) (by with_unfolding_all exact rfl) (by with_unfolding_all exact rfl)) C_lt_bool (by with_unfolding_all exact rfl)) (fun hb => ?_) (fun hb => ?_)
      · have hP : kb ((lo + hi) / 2) = true := by simpa using hb
        refine Bk_assign (pv := .int (((lo + hi) / 2 : Nat) : Int)) (fun h F => by walk_at "my ev") (.inl (by with_unfolding_all exact rfl)) (by with_unfolding_all exact rfl) ?_
        refine Bk_nil (Bk_nil ⟨_, ?_, lo, (lo + hi) / 2, rfl, hm.1, by (walk_at "my om"), by (walk_at "my om"), ?_, ?_⟩)
        · first | exact less_r hm1 hm2 | exact Nat.sub_lt_sub_right hm1 hm2
        · rw [← hbis]; conv => rhs; rw [bis, if_pos hlt, if_pos hP]
        · ((refine sub_of ?_; walk_at "my lk"))
      · have hP : kb ((lo + hi) / 2) = false := by simpa using hb
        refine Bk_assign (pv := .int (((lo + hi) / 2 + 1 : Nat) : Int)) (fun h F => ?_) (.inl (by with_unfolding_all exact rfl)) (by with_unfolding_all exact rfl) ?_
        · rw [Int.natCast_succ]; walk_at "my ev"
        refine Bk_nil (Bk_nil ⟨_, ?_, (lo + hi) / 2 + 1, hi, rfl, hm2, hhi, by (walk_at "my om"), ?_, ?_⟩)
        · first | exact less_r hm1 hm2 | exact Nat.sub_lt_sub_right hm1 hm2
        · rw [← hbis]; conv => rhs; rw [bis, if_pos hlt, if_neg (by rw [hP]; exact Bool.false_ne_true)]
        · ((refine sub_of ?_; walk_at "my lk"))
    · have hge : ¬ lo < hi := by have := of_decide_eq_false hb; (walk_at "my om")
      refine Bk_sub hsub ?_
      unfold canB
      refine Bk_nil ?_
      rw [← hbis, bis, if_neg hge]
      walk_at "my st"

theorem bisect_leftK_spec : ∀ {w : World} {A : Around} {h : Heap} {n : Nat} (g : Glo w h) (rm : Rm A n) (hn : n ≤ 99) (ns : List Int) (hsz : ns.length < 2 ^ 60) (kf : Addr) (kb : Nat → Bool) (p : Nat) (hp : p ≤ ns.length) (hkept : Kept w h (.ref kf)) (hkey : ∀ A', Rm A' (n + 1) → ∀ i, i < ns.length → CallTo w A' h (.ref kf) [.int (ns.getD i 0)] (.bool (kb i))),
   CallKw w A h (.ref 41) [.list (iL ns), .bool true, .int p] [("key", .obj kf)] (.int (bis kb p ns.length)) := by
  have : (PySem.Challenge.rw_pg0232_01, kK) = (PySem.Challenge.rw_pg0232_01, kK) := rfl
  revert this
  k_fill
  intro _ w A h n g rm hn ns hsz kf kb p hp hkept hkey
  refine' Call_defB (names := ["a", "x", "lo", "hi", "key"]) (all := [.list (iL ns), .bool true, .int p, .none, .obj kf]) g rm hn ?k1z ?k2z ?k3z ?k4z ?k5z ?k6z ?k7z ?k8z ?k9z ?k10z
  case k1z => k_is
  case k2z => k_is
  case k3z =>
    intro s vs kvs X rs ks
    obtain ⟨a, b, c, rfl, ra, rb, rc⟩ := reps3 rs
    obtain ⟨d, rfl, rd⟩ := reps1 ks
    refine ⟨[a, b, c, .none, d], .cons ra (.cons rb (.cons rc (.cons .mkNone (.cons rd .nil)))), ?_⟩
    refine kp_binds X fun S => ?_
    exact rfl
  case k4z => with_unfolding_all exact rfl
  case k5z => rfl
  case k6z => rfl
  case k7z => rfl
  case k8z => with_unfolding_all exact rfl
  case k9z => decide
  case k10z =>
    intro h₀ L k
    refine Body.ofBlk ?_
    walk_at "my st"
    · rename_i hb; exact absurd (of_decide_eq_true hb) (by (walk_at "my om"))
    walk_at "my st"
    refine Bk_if (b := true) (fun h F => T_Compare (x := .none) (y := .none) (by walk_at "my ev") E_None (C_is_none isn_none) (by with_unfolding_all exact rfl)) (fun _ => ?_) (fun q => by cases q)
    refine Bk_assign (pv := .int ns.length) (fun h F => ?_) (.inl (by with_unfolding_all exact rfl)) (by with_unfolding_all exact rfl) ?_
    · have hl : (iL ns).length = ns.length := by simp [iL]
      rw [← hl]
      exact E_CallB F.sit (by with_unfolding_all exact rfl) (no_len _) bt_len (.inl ⟨_, rfl⟩) (by decide) (by decide) (A_cons (by walk_at "my ev") A_nil (by with_unfolding_all exact rfl)) (K_len_list (by rw [hl]; (walk_at "my om"))) (by with_unfolding_all exact rfl) (by with_unfolding_all exact rfl)
    walk_at "my st"
    refine Bk_if (b := false) (fun h F => T_Compare (x := .obj kf) (y := .none) (by walk_at "my ev") E_None (C_is_none isn_obj) (by with_unfolding_all exact rfl)) (fun q => by cases q) (fun _ => ?_)
    refine Bk_while (fun m ρ' => ∃ lo hi, m = hi - lo ∧ lo ≤ hi ∧ hi ≤ ns.length ∧ 0 ≤ lo ∧ bis kb lo hi = bis kb p ns.length ∧ ∀ y pv, (canB (iL ns) (.bool true) (.obj kf) lo hi).lookup y = some pv → ρ'.lookup y = some pv) (ns.length - p)
      ⟨p, ns.length, rfl, by (walk_at "my om"), by (walk_at "my om"), by (walk_at "my om"), rfl, by ((refine sub_of ?_; walk_at "my lk"))⟩ ?_
    rintro m ρ' ⟨lo, hi, rfl, hlh, hhi, _, hbis, hsub⟩
    refine ⟨decide ((lo : Int) < hi), fun h F => ?_, fun hb => ?_, fun hb => ?_⟩
    · have F := F.sub hsub
      unfold canB at F
      walk_at "my test"
    · have hlt : lo < hi := by have := of_decide_eq_true hb; (walk_at "my om")
      refine Bk_sub hsub ?_
      unfold canB
      refine Bk_assign (pv := .int (((lo + hi) / 2 : Nat) : Int)) (fun h F => ?_) (.inl (by with_unfolding_all exact rfl)) (by with_unfolding_all exact rfl) ?_
      · rw [← mid_eq]; walk_at "my ev"
      have hm := mid_ok hlt
      obtain ⟨hm1, hm2⟩ := mid_ok hlt
      have hm3 := Nat.le_of_lt hm2
      have hget : (iL ns)[((((lo + hi) / 2 : Nat) : Int)).toNat]? = some (.int (ns.getD ((lo + hi) / 2) 0)) := by
        rw [Int.toNat_natCast, iL, List.getElem?_map, List.getElem?_eq_getElem (by (walk_at "my om")), List.getD_eq_getElem?_getD, List.getElem?_eq_getElem (by (walk_at "my om"))]; rfl
      refine Bk_if (b := !kb ((lo + hi) / 2) && true) (fun h F => T_Compare (x := .bool (kb ((lo + hi) / 2))) (y := .bool true) (E_CallObj (f := kf) (pvs := [.int (ns.getD ((lo + hi) / 2) 0)]) (by walk_at "my ev") (hkept.at (k.trans F.ext)) (A_cons (E_Item (x := .list (iL ns)) (y := .int (((lo + hi) / 2 : Nat) : Int)) (by walk_at "my ev") (by walk_at "my ev") (G_list (by (walk_at "my om")) (by (walk_at "my om")) hget)) A_nil (by with_unfolding_all exact rfl)) ((hkey _ F.rm _ (by (walk_at "my om"))).at (k.trans F.ext)) (by with_unfolding_all exact rfl) (by with_unfolding_all exact rfl)) (by walk_at "my ev") C_lt_bool (by with_unfolding_all exact rfl)) (fun hb => ?_) (fun hb => ?_)
      · have hP : kb ((lo + hi) / 2) = false := by simpa using hb
        refine Bk_assign (pv := .int (((lo + hi) / 2 + 1 : Nat) : Int)) (fun h F => ?_) (.inl (by with_unfolding_all exact rfl)) (by with_unfolding_all exact rfl) ?_
        · rw [Int.natCast_succ]; walk_at "my ev"
        refine Bk_nil (Bk_nil ⟨_, ?_, (lo + hi) / 2 + 1, hi, rfl, hm2, hhi, by (walk_at "my om"), ?_, ?_⟩)
        · first | exact less_r hm1 hm2 | exact Nat.sub_lt_sub_right hm1 hm2
        · rw [← hbis]; conv => rhs; rw [bis, if_pos hlt, if_neg (by rw [hP]; exact Bool.false_ne_true)]
        · ((refine sub_of ?_; walk_at "my lk"))
      · have hP : kb ((lo + hi) / 2) = true := by simpa using hb
        refine Bk_assign (pv := .int (((lo + hi) / 2 : Nat) : Int)) (fun h F => by walk_at "my ev") (.inl (by with_unfolding_all exact rfl)) (by with_unfolding_all exact rfl) ?_
        refine Bk_nil (Bk_nil ⟨_, ?_, lo, (lo + hi) / 2, rfl, hm.1, by (walk_at "my om"), by (walk_at "my om"), ?_, ?_⟩)
        · first | exact less_r hm1 hm2 | exact Nat.sub_lt_sub_right hm1 hm2
        · rw [← hbis]; conv => rhs; rw [bis, if_pos hlt, if_pos hP]
        · ((refine sub_of ?_; walk_at "my lk"))
    · have hge : ¬ lo < hi := by have := of_decide_eq_false hb; (walk_at "my om")
      refine Bk_sub hsub ?_
      unfold canB
      refine Bk_nil ?_
      rw [← hbis, bis, if_neg hge]
      walk_at "my st"
end
section
section
variable {w : World} {A : Around} {env : Env} {n : Nat} {h₀ h : Heap} {ρ : List (Str × PV)}
theorem K_round {x : UInt64} {i : Int} (hA : A.handled = none) (he : fround x = some i) : CallTo w A h (.builtin "round") [.float x] (.int i) := by
  intro h' k vs r s e
  obtain ⟨a, rfl, ra⟩ := reps1 r
  obtain ⟨t, rfl⟩ := rep_float ra
  unfold fround at he
  split at he
  · rename_i sg m e' hd
    cases he
    refine call_round_float hA (fun c => ?_) (fun c => ?_) fun _ => ?_
    · exfalso; unfold Float64.isNaN at c; rw [hd] at c; cases c
    · exfalso; unfold Float64.isInf at c; rw [hd] at c; cases c
    · rw [toInt_fin hd]
      exact ⟨.tok s _, .mkInt _ _⟩
  · cases he
theorem K_str {i : Int} (h0 : -100000 < i) (h1 : i < 100000) : CallTo w A h (.type "str") [.int i] (.str (toString i)) := by
  intro h' k vs r s e
  obtain ⟨a, rfl, ra⟩ := reps1 r
  obtain ⟨t, rfl⟩ := rep_int ra
  refine str_of_int_fit (N := 100000) (by split <;> (walk_at "my om")) (by decide) fun _ => ?_
  exact ⟨.tok s _, .mkStr _ _⟩
theorem G_str {x : Str} {i : Int} {c : Nat} (h0 : 0 ≤ i) (h1 : i < 2 ^ 63) (hc : x.cps[i.toNat]? = some c) : GetTo w A h (.str x) (.int i) (.str ⟨#[c]⟩) := by
  intro h' k o j ro rj
  obtain ⟨t, rfl⟩ := rep_str ro
  obtain ⟨u, rfl⟩ := rep_int rj
  refine ⟨"str", _, fun s e => typeIs_str s x t, F.slot_str_getitem.lookup, fun s e => ?_⟩
  have hl : i.toNat < x.length := by
    rcases Nat.lt_or_ge i.toNat x.cps.size with q | q
    · exact q
    · rw [Array.getElem?_eq_none (by exact q)] at hc; cases hc
  refine P.getItem_str (c := c) ?_ ?_ ⟨.tok s _, .mkStr _ _⟩
  · simp; (walk_at "my om")
  · unfold seqIndex?
    simp only [show ¬ (i < 0) from by (walk_at "my om"), if_false]
    rw [if_pos (by simp; (walk_at "my om"))]
    exact hc
theorem T_Or {a b : PySem.Expr} {pos : Pos} {x y : Bool} (ha : TestTo w A env h a x) (hb : TestTo w A env h b y) : TestTo w A env h (.BoolOp .Or [a, b] pos) (x || y) := by
  intro s e
  refine wpAny_isTrue_BoolOp (wpAny_allTrue_Or_cons (ha.use e fun v s₁ g₁ r₁ => ?_))
  subst r₁
  cases v with
  | true => exact ⟨g₁, rfl⟩
  | false => 
    simp only [Bool.false_eq_true, if_false]
    refine wpAny_allTrue_Or_cons (hb.use (e.trans g₁.ext) fun v s₂ g₂ r₂ => ?_)
    subst r₂
    cases v with
    | true => exact ⟨g₁.trans g₂, rfl⟩
    | false => 
      simp only [Bool.false_eq_true, if_false]
      exact wpAny_allTrue_Or_nil ⟨g₁.trans g₂, rfl⟩
theorem T_And {a b : PySem.Expr} {pos : Pos} {x y : Bool} (ha : TestTo w A env h a x) (hb : x = true → TestTo w A env h b y) : TestTo w A env h (.BoolOp .And [a, b] pos) (x && y) := by
  intro s e
  refine wpAny_isTrue_BoolOp (wpAny_allTrue_And_cons (ha.use e fun v s₁ g₁ r₁ => ?_))
  subst r₁
  cases v with
  | false => exact ⟨g₁, rfl⟩
  | true => 
    simp only [if_true]
    refine wpAny_allTrue_And_cons ((hb rfl).use (e.trans g₁.ext) fun v s₂ g₂ r₂ => ?_)
    subst r₂
    cases v with
    | false => exact ⟨g₁.trans g₂, rfl⟩
    | true => 
      simp only [if_true]
      exact wpAny_allTrue_And_nil ⟨g₁.trans g₂, rfl⟩
/-- a test of a value: a truth value -/
theorem T_bool {e : PySem.Expr} {b : Bool} (he : EvalsTo w A env h e (.bool b)) (hs : ∀ whole, isTrue e env whole = (do let v ← whole; standAt e.pos; holding [v] (truthy v))) : TestTo w A env h e b := by
  intro s k
  refine wpAny_isTrue_value (he.use k fun v s₁ g₁ r₁ => ?_) (hs _)
  rw [rep_bool r₁]
  exact wpAny_truthy_bool ⟨g₁, rfl⟩
end
theorem isTrue_Name {x : Str} {p : Pos} {env : Env} (whole : Sem Value) : isTrue (.Name x p) env whole = (do let v ← whole; standAt (PySem.Expr.Name x p).pos; holding [v] (truthy v)) := rfl
section
variable {w : World} {A : Around} {env : Env} {n : Nat} {h₀ : Heap} {ρ : List (Str × PV)}
theorem B_un3 {x y z : Str} {p1 p2 p3 : Pos} {k : Nat} {tpos pos : Pos} {e : PySem.Expr} {pv a b c r : PV} {rest : List Stmt}
    (he : ∀ h, Frm w A env n h₀ ρ h → EvalsTo w A env h e pv) (hq : Seqs pv [a, b, c]) (h1 : Storable env x) (h2 : Storable env y) (h3 : Storable env z)
    (hs : swapsWithSole [.Tuple [.Name x p1, .Name y p2, .Name z p3] k tpos] e pos.line env = pure false) (hw : swappedStores [.Tuple [.Name x p1, .Name y p2, .Name z p3] k tpos] e env = pure none)
    (b' : Body w A env n h₀ ((z, c) :: (y, b) :: (x, a) :: ρ) rest r) : Body w A env n h₀ ρ (.Assign [.Tuple [.Name x p1, .Name y p2, .Name z p3] k tpos] e pos :: rest) r :=
  B_unpack (l := [(x, p1), (y, p2), (z, p3)]) (pvs := [a, b, c]) he hq rfl rfl (fm h1 (fm h2 (fm h3 fm0))) hs hw b'
theorem Go.un3 {x y z : Str} {p1 p2 p3 : Pos} {k : Nat} {tpos pos : Pos} {e : PySem.Expr} {pv a b c r : PV} {more rest : List Stmt}
    (he : ∀ h, Frm w A env n h₀ ρ h → EvalsTo w A env h e pv) (hq : Seqs pv [a, b, c]) (h1 : Storable env x) (h2 : Storable env y) (h3 : Storable env z)
    (hs : swapsWithSole [.Tuple [.Name x p1, .Name y p2, .Name z p3] k tpos] e pos.line env = pure false) (hw : swappedStores [.Tuple [.Name x p1, .Name y p2, .Name z p3] k tpos] e env = pure none)
    (b' : Go w A env n h₀ ((z, c) :: (y, b) :: (x, a) :: ρ) more rest r) : Go w A env n h₀ ρ (.Assign [.Tuple [.Name x p1, .Name y p2, .Name z p3] k tpos] e pos :: more) rest r :=
  Go.unpack (l := [(x, p1), (y, p2), (z, p3)]) (pvs := [a, b, c]) he hq rfl rfl (fm h1 (fm h2 (fm h3 fm0))) hs hw b'
end
theorem Seqs.l {xs : List PV} : Seqs (.list xs) xs := .inl rfl
theorem Seqs.t {xs : List PV} : Seqs (.tuple xs) xs := .inr rfl
theorem Storable.loc {env : Env} {x : Str} (h : env.kindOf x = some .local) : Storable env x := .inl h
end
section
open PySem.Float64 in
section
noncomputable def fc {α : Type} (n : Nat) (f : Nat → α) : α := Nat.casesOn (motive := fun _ => α) n (f 0) (fun k => f (Nat.succ k))
theorem fc_eq {α : Type} (n : Nat) (f : Nat → α) : fc n f = f n := by cases n <;> rfl
noncomputable def nE (x : Nat) : Nat := Nat.mod (Nat.div x 4503599627370496) 2048
noncomputable def nM (x : Nat) : Nat := Nat.add 4503599627370496 (Nat.mod x 4503599627370496)
noncomputable def nS (x : Nat) : Nat := Nat.div x 9223372036854775808
noncomputable def gd (x : Nat) : Bool := and (Nat.ble 900 (nE x)) (Nat.ble (nE x) 1074)
noncomputable def he (a d : Nat) : Nat := Nat.div (Nat.add (Nat.add (Nat.mul 2 a) (Nat.sub d 1)) (Nat.mod (Nat.div a d) 2)) (Nat.mul 2 d)

theorem gd_iff {x : Nat} : gd x = true ↔ 900 ≤ nE x ∧ nE x ≤ 1074 := by
  unfold gd
  rw [Bool.and_eq_true, Nat.ble_eq, Nat.ble_eq]
theorem dec_good {x : UInt64} (h : gd x.toNat = true) : decode x = .fin (x.toNat / 2 ^ 63 == 1) (nM x.toNat) ((nE x.toNat : Int) - 1075) := by
  obtain ⟨h1, h2⟩ := gd_iff.mp h
  have e : x.toNat / 2 ^ 52 % 2048 = nE x.toNat := rfl
  unfold decode
  simp only [e]
  rw [if_neg (by simp; (walk_at "my ol")), if_neg (by simp; (walk_at "my ol"))]
  rfl

theorem he_eq (a d : Nat) (hd : 0 < d) : he a d = halfEven a d := by
  show (2 * a + (d - 1) + (a / d) % 2) / (2 * d) = halfEven a d
  unfold halfEven
  have hr := Nat.mod_lt a hd
  have hq := Nat.div_add_mod a d
  generalize hqq : a / d = q at *
  generalize hrr : a % d = r at *
  have ha : a = d * q + r := hq.symm
  subst ha
  have key : 2 * (d * q + r) + (d - 1) + q % 2 = 2 * d * q + (2 * r + (d - 1) + q % 2) := by
    rw [Nat.mul_add, ← Nat.mul_assoc]; (walk_at "my ol")
  rw [key, Nat.mul_add_div (by (walk_at "my ol"))]
  by_cases c : 2 * r > d ∨ (2 * r = d ∧ q % 2 = 1)
  · rw [if_pos (by simpa using c)]
    have : (2 * r + (d - 1) + q % 2) / (2 * d) = 1 := by
      have h1 : 2 * d ≤ 2 * r + (d - 1) + q % 2 := by (walk_at "my ol")
      have h2 : 2 * r + (d - 1) + q % 2 < 2 * (2 * d) := by (walk_at "my ol")
      exact Nat.div_eq_of_lt_le (by (walk_at "my ol")) (by (walk_at "my ol"))
    rw [this]
  · rw [if_neg (by simpa using c)]
    have : (2 * r + (d - 1) + q % 2) / (2 * d) = 0 := Nat.div_eq_of_lt (by (walk_at "my ol"))
    rw [this]; rfl

theorem shift_neg (n d k : Nat) : shift n d (-(k : Int)) = (n, d * 2 ^ k) ∨ k = 0 := by
  rcases Nat.eq_zero_or_pos k with h | h
  · exact .inr h
  · refine .inl ?_
    unfold shift
    rw [if_neg (by (walk_at "my ol"))]
    simp
theorem shift_neg' (n d k : Nat) : shift n d (-(k : Int)) = (n, d * 2 ^ k) := by
  rcases shift_neg n d k with h | h
  · exact h
  · subst h; unfold shift; simp
theorem shift_pos (n d k : Nat) : shift n d (k : Int) = (n * 2 ^ k, d) := by
  unfold shift
  rw [if_pos (by (walk_at "my ol"))]
  simp

/-- the quick rounding: s is told from outside and looked at -/
theorem roundMag_fast (n d s : Nat) (hd : 0 < d) (hs1 : 1 ≤ s) (hs2 : s ≤ 1000) (hq : n * 2 ^ s / d / 2 ^ 52 = 1) :
    roundMag n d = (1074 - s) * 2 ^ 52 + halfEven (n * 2 ^ s) d ∧ roundMag n d < 2 ^ 63 ∧ 2 ^ 52 ≤ roundMag n d := by
  have hq1 : 2 ^ 52 * d ≤ n * 2 ^ s := by
    have h1 : 2 ^ 52 ≤ n * 2 ^ s / d := by
      rcases Nat.lt_or_ge (n * 2 ^ s / d) (2 ^ 52) with q | q
      · rw [Nat.div_eq_of_lt q] at hq; (walk_at "my ol")
      · exact q
    exact (Nat.le_div_iff_mul_le hd).mp h1
  have hq2 : n * 2 ^ s < 2 ^ 53 * d := by
    have h1 : n * 2 ^ s / d < 2 ^ 53 := by
      rcases Nat.lt_or_ge (n * 2 ^ s / d) (2 ^ 53) with q | q
      · exact q
      · have : 2 ≤ n * 2 ^ s / d / 2 ^ 52 := (Nat.le_div_iff_mul_le (by decide)).mpr (by rw [show 2 * 2 ^ 52 = 2 ^ 53 by decide]; exact q)
        (walk_at "my ol")
    exact (Nat.div_lt_iff_lt_mul hd).mp h1
  have hn : n ≠ 0 := by
    rintro rfl
    rw [Nat.zero_mul] at hq1
    have : 0 < 2 ^ 52 * d := Nat.mul_pos (by decide) hd
    (walk_at "my ol")
  have hn1 := Nat.log2_self_le hn
  have hn2 := @Nat.lt_log2_self n
  have hd1 := Nat.log2_self_le (Nat.ne_of_gt hd)
  have hd2 := @Nat.lt_log2_self d
  have hhe : halfEven (n * 2 ^ s) d ≤ 2 ^ 53 := by
    unfold halfEven
    have h1 : n * 2 ^ s / d < 2 ^ 53 := (Nat.div_lt_iff_lt_mul hd).mpr hq2
    dsimp only
    split <;> (walk_at "my ol")
  have hhe' : 2 ^ 52 ≤ halfEven (n * 2 ^ s) d := by
    unfold halfEven
    have h1 : 2 ^ 52 ≤ n * 2 ^ s / d := (Nat.le_div_iff_mul_le hd).mpr hq1
    dsimp only
    split <;> (walk_at "my ol")
  -- the size of the quotient
  have L1 : 52 + d.log2 ≤ n.log2 + s := by
    have h1 : 2 ^ (52 + d.log2) < 2 ^ (n.log2 + 1 + s) := by
      calc 2 ^ (52 + d.log2) = 2 ^ 52 * 2 ^ d.log2 := Nat.pow_add ..
        _ ≤ 2 ^ 52 * d := Nat.mul_le_mul_left _ hd1
        _ ≤ n * 2 ^ s := hq1
        _ < 2 ^ (n.log2 + 1) * 2 ^ s := Nat.mul_lt_mul_of_pos_right hn2 (Nat.pow_pos (by decide))
        _ = 2 ^ (n.log2 + 1 + s) := (Nat.pow_add ..).symm
    have := (Nat.pow_lt_pow_iff_right (by decide : 1 < 2)).mp h1
    (walk_at "my ol")
  have L2 : n.log2 + s ≤ 53 + d.log2 := by
    have h1 : 2 ^ (n.log2 + s) < 2 ^ (53 + (d.log2 + 1)) := by
      calc 2 ^ (n.log2 + s) = 2 ^ n.log2 * 2 ^ s := Nat.pow_add ..
        _ ≤ n * 2 ^ s := Nat.mul_le_mul_right _ hn1
        _ < 2 ^ 53 * d := hq2
        _ < 2 ^ 53 * 2 ^ (d.log2 + 1) := Nat.mul_lt_mul_of_pos_left hd2 (by decide)
        _ = 2 ^ (53 + (d.log2 + 1)) := (Nat.pow_add ..).symm
    have := (Nat.pow_lt_pow_iff_right (by decide : 1 < 2)).mp h1
    (walk_at "my ol")
  have main : roundMag n d = min infMag ((1074 - s) * 2 ^ 52 + halfEven (n * 2 ^ s) d) := by
    unfold roundMag
    rw [if_neg (by simpa using hn)]
    dsimp only
    -- a ≥ b tells the case
    have hab : ((shift n d (-((n.log2 : Int) - (d.log2 : Int)))).1 ≥ (shift n d (-((n.log2 : Int) - (d.log2 : Int)))).2) ↔ n.log2 + s = 52 + d.log2 := by
      rcases Nat.le_total d.log2 n.log2 with q | q
      · obtain ⟨k, hk⟩ := Nat.exists_eq_add_of_le q
        rw [show -((n.log2 : Int) - (d.log2 : Int)) = -(k : Int) by (walk_at "my ol"), shift_neg']
        show d * 2 ^ k ≤ n ↔ _
        constructor
        · intro h
          have h1 : d * 2 ^ (k + s) < d * 2 ^ 53 := by
            calc d * 2 ^ (k + s) = d * 2 ^ k * 2 ^ s := by rw [Nat.pow_add, Nat.mul_assoc]
              _ ≤ n * 2 ^ s := Nat.mul_le_mul_right _ h
              _ < 2 ^ 53 * d := hq2
              _ = d * 2 ^ 53 := Nat.mul_comm ..
          have := (Nat.pow_lt_pow_iff_right (by decide : 1 < 2)).mp (Nat.lt_of_mul_lt_mul_left h1)
          (walk_at "my ol")
        · intro h
          have hk52 : k + s = 52 := by (walk_at "my ol")
          have h1 : d * 2 ^ k * 2 ^ s ≤ n * 2 ^ s := by
            rw [Nat.mul_assoc, ← Nat.pow_add, hk52, Nat.mul_comm]; exact hq1
          exact Nat.le_of_mul_le_mul_right h1 (Nat.pow_pos (by decide))
      · obtain ⟨k, hk⟩ := Nat.exists_eq_add_of_le q
        rw [show -((n.log2 : Int) - (d.log2 : Int)) = (k : Int) by (walk_at "my ol"), shift_pos]
        show d ≤ n * 2 ^ k ↔ _
        constructor
        · intro h
          have h1 : d * 2 ^ s < d * 2 ^ (53 + k) := by
            calc d * 2 ^ s ≤ n * 2 ^ k * 2 ^ s := Nat.mul_le_mul_right _ h
              _ = n * 2 ^ s * 2 ^ k := by rw [Nat.mul_assoc, Nat.mul_comm (2 ^ k), ← Nat.mul_assoc]
              _ < 2 ^ 53 * d * 2 ^ k := Nat.mul_lt_mul_of_pos_right hq2 (Nat.pow_pos (by decide))
              _ = d * 2 ^ (53 + k) := by rw [Nat.mul_comm (2 ^ 53) d, Nat.mul_assoc, ← Nat.pow_add]
          have := (Nat.pow_lt_pow_iff_right (by decide : 1 < 2)).mp (Nat.lt_of_mul_lt_mul_left h1)
          (walk_at "my ol")
        · intro h
          have hk52 : s = 52 + k := by (walk_at "my ol")
          have h1 : 2 ^ 52 * d ≤ 2 ^ 52 * (n * 2 ^ k) := by
            calc 2 ^ 52 * d ≤ n * 2 ^ s := hq1
              _ = 2 ^ 52 * (n * 2 ^ k) := by rw [hk52, Nat.pow_add, ← Nat.mul_assoc, Nat.mul_comm n, Nat.mul_assoc]
          exact Nat.le_of_mul_le_mul_left h1 (by decide)
    have he' : max (if (shift n d (-((n.log2 : Int) - (d.log2 : Int)))).1 ≥ (shift n d (-((n.log2 : Int) - (d.log2 : Int)))).2 then ((n.log2 : Int) - (d.log2 : Int)) - 52 else ((n.log2 : Int) - (d.log2 : Int)) - 53) (-1074) = -(s : Int) := by
      by_cases c : n.log2 + s = 52 + d.log2
      · rw [if_pos (hab.mpr c)]; (walk_at "my ol")
      · rw [if_neg (fun q => c (hab.mp q))]; (walk_at "my ol")
    rw [he']
    rw [show -(-(s : Int)) = (s : Int) by (walk_at "my ol"), shift_pos]
    rw [show (-(s : Int) + 1074).toNat = 1074 - s by (walk_at "my ol")]
  have hlt : (1074 - s) * 2 ^ 52 + halfEven (n * 2 ^ s) d < infMag := by
    have : infMag = 2047 * 2 ^ 52 := rfl
    have h2 : (1074 - s) * 2 ^ 52 ≤ 1073 * 2 ^ 52 := Nat.mul_le_mul_right _ (by (walk_at "my ol"))
    omega/-k-/
  rw [main, Nat.min_eq_right (Nat.le_of_lt hlt)]
  refine ⟨rfl, ?_, by (walk_at "my ol")⟩
  have : infMag = 2047 * 2 ^ 52 := rfl
  (walk_at "my ol")
end
end
section
open PySem.Float64 in
section
theorem Ndiv (a b : Nat) : Nat.div a b = a / b := rfl
theorem beqf {a b : Nat} (h : a ≠ b) : Nat.beq a b = false := by
  cases c : Nat.beq a b with
  | false => rfl
  | true => exact absurd (Nat.beq_eq.mp c) h
noncomputable def rb (n d s sg slow : Nat) : Nat := cond (and (Nat.ble 1 s) (and (Nat.ble s 1000) (Nat.beq (Nat.div (Nat.div (Nat.mul n (Nat.pow 2 s)) d) 4503599627370496) 1))) (Nat.add sg (Nat.add (Nat.mul (Nat.sub 1074 s) 4503599627370496) (he (Nat.mul n (Nat.pow 2 s)) d))) slow
theorem rb_eq (neg : Bool) (n d s sg slow : Nat) (hd : 0 < d) (hsg : sg = if neg then 2 ^ 63 else 0) (hslow : slow = (ofFrac neg n d).toNat) : rb n d s sg slow = (ofFrac neg n d).toNat := by
  unfold rb
  cases c : (and (Nat.ble 1 s) (and (Nat.ble s 1000) (Nat.beq (Nat.div (Nat.div (Nat.mul n (Nat.pow 2 s)) d) 4503599627370496) 1))) with
  | false => exact hslow
  | true =>
    rw [Bool.and_eq_true, Bool.and_eq_true, Nat.ble_eq, Nat.ble_eq, Nat.beq_eq] at c
    obtain ⟨c1, c2, c3⟩ := c
    rw [cond_true]
    have e52 : (4503599627370496 : Nat) = 2 ^ 52 := by decide
    simp only [Ndiv, Nat.mul_eq, Nat.pow_eq, Nat.sub_eq, Nat.add_eq] at c3 ⊢
    rw [e52] at c3 ⊢
    obtain ⟨h1, h2, _⟩ := roundMag_fast n d s hd c1 c2 c3
    rw [he_eq _ _ hd]
    unfold ofFrac
    rw [pack_toNat neg h2, h1, hsg]
theorem sgn_bit (x : UInt64) : x.toNat / 2 ^ 63 = if (x.toNat / 2 ^ 63 == 1) then 1 else 0 := by
  have := x.toNat_lt
  have h : x.toNat / 2 ^ 63 < 2 := Nat.div_lt_of_lt_mul (by (walk_at "my ol"))
  by_cases c : x.toNat / 2 ^ 63 = 1
  · rw [if_pos (by simpa using c)]; exact c
  · rw [if_neg (by simpa using c)]; (walk_at "my ol")
theorem toU (x : UInt64) : x.toNat.toUInt64 = x := by simp

noncomputable def mul3 (x y p j s : Nat) : Nat := rb p (Nat.pow 2 j) s (Nat.mul 9223372036854775808 (Nat.mod (Nat.add (nS x) (nS y)) 2)) (fmul x.toUInt64 y.toUInt64).toNat
noncomputable def mul2 (x y p j : Nat) : Nat := fc (Nat.sub j (Nat.add 52 (Nat.div p 40564819207303340847894502572032))) fun s => mul3 x y p j s
noncomputable def mul1 (x y : Nat) : Nat := fc (Nat.mul (nM x) (nM y)) fun p => fc (Nat.sub 2150 (Nat.add (nE x) (nE y))) fun j => mul2 x y p j
noncomputable def nmul (x y : Nat) : Nat := cond (and (gd x) (gd y)) (mul1 x y) (fmul x.toUInt64 y.toUInt64).toNat
theorem nmul_eq (x y : UInt64) : nmul x.toNat y.toNat = (fmul x y).toNat := by
  unfold nmul
  cases c : (and (gd x.toNat) (gd y.toNat)) with
  | false => rw [cond_false, toU, toU]
  | true =>
    rw [Bool.and_eq_true] at c
    obtain ⟨cx, cy⟩ := c
    obtain ⟨x1, x2⟩ := gd_iff.mp cx
    obtain ⟨y1, y2⟩ := gd_iff.mp cy
    rw [cond_true]
    unfold mul1 mul2 mul3
    simp only [fc_eq, toU]
    have key : fmul x y = ofFrac ((x.toNat / 2 ^ 63 == 1) != (y.toNat / 2 ^ 63 == 1)) (nM x.toNat * nM y.toNat) (2 ^ (2150 - (nE x.toNat + nE y.toNat))) := by
      show Float64.mul x y = _
      unfold Float64.mul
      rw [dec_good cx, dec_good cy]
      show ofBin _ _ _ = _
      unfold ofBin
      rw [show ((nE x.toNat : Int) - 1075) + ((nE y.toNat : Int) - 1075) = -((2150 - (nE x.toNat + nE y.toNat) : Nat) : Int) by (walk_at "my ol"), shift_neg']
      simp only [Nat.one_mul]
    refine (rb_eq _ _ _ _ _ _ (Nat.pow_pos (by decide)) ?_ ?_).trans (congrArg UInt64.toNat key).symm
    · show 9223372036854775808 * ((nS x.toNat + nS y.toNat) % 2) = _
      have hx := sgn_bit x
      have hy := sgn_bit y
      show 9223372036854775808 * ((x.toNat / 2 ^ 63 + y.toNat / 2 ^ 63) % 2) = _
      rw [hx, hy]
      cases (x.toNat / 2 ^ 63 == 1) <;> cases (y.toNat / 2 ^ 63 == 1) <;> rfl
    · rw [key]; rfl

noncomputable def div3 (x y n d s : Nat) : Nat := rb n d s (Nat.mul 9223372036854775808 (Nat.mod (Nat.add (nS x) (nS y)) 2)) (fdiv x.toUInt64 y.toUInt64).toNat
noncomputable def div2 (x y e f : Nat) : Nat := fc (Nat.sub (Nat.add 53 f) (Nat.add e (Nat.div (nM x) (nM y)))) fun s => div3 x y (Nat.mul (nM x) (Nat.pow 2 (Nat.sub e f))) (Nat.mul (nM y) (Nat.pow 2 (Nat.sub f e))) s
noncomputable def ndiv (x y : Nat) : Nat := cond (and (gd x) (gd y)) (fc (nE x) fun e => fc (nE y) fun f => div2 x y e f) (fdiv x.toUInt64 y.toUInt64).toNat
theorem ndiv_eq (x y : UInt64) : ndiv x.toNat y.toNat = (fdiv x y).toNat := by
  unfold ndiv
  cases c : (and (gd x.toNat) (gd y.toNat)) with
  | false => rw [cond_false, toU, toU]
  | true =>
    rw [Bool.and_eq_true] at c
    obtain ⟨cx, cy⟩ := c
    obtain ⟨x1, x2⟩ := gd_iff.mp cx
    obtain ⟨y1, y2⟩ := gd_iff.mp cy
    rw [cond_true]
    unfold div2 div3
    simp only [fc_eq, toU]
    have hMy : 0 < nM y.toNat := by show 0 < 4503599627370496 + _; (walk_at "my ol")
    have key : fdiv x y = ofFrac ((x.toNat / 2 ^ 63 == 1) != (y.toNat / 2 ^ 63 == 1)) (nM x.toNat * 2 ^ (nE x.toNat - nE y.toNat)) (nM y.toNat * 2 ^ (nE y.toNat - nE x.toNat)) := by
      show Float64.div x y = _
      unfold Float64.div
      rw [dec_good cx, dec_good cy]
      show (if (nM y.toNat == 0) = true then _ else _) = _
      rw [if_neg (by simp; (walk_at "my ol"))]
      rcases Nat.le_total (nE y.toNat) (nE x.toNat) with q | q
      · obtain ⟨k, hk⟩ := Nat.exists_eq_add_of_le q
        rw [show ((nE x.toNat : Int) - 1075) - ((nE y.toNat : Int) - 1075) = (k : Int) by (walk_at "my ol"), shift_pos]
        rw [show nE x.toNat - nE y.toNat = k by (walk_at "my ol"), show nE y.toNat - nE x.toNat = 0 by (walk_at "my ol"), Nat.pow_zero, Nat.mul_one]
      · obtain ⟨k, hk⟩ := Nat.exists_eq_add_of_le q
        rw [show ((nE x.toNat : Int) - 1075) - ((nE y.toNat : Int) - 1075) = -(k : Int) by (walk_at "my ol"), shift_neg']
        rw [show nE y.toNat - nE x.toNat = k by (walk_at "my ol"), show nE x.toNat - nE y.toNat = 0 by (walk_at "my ol"), Nat.pow_zero, Nat.mul_one]
    refine (rb_eq _ _ _ _ _ _ (Nat.mul_pos hMy (Nat.pow_pos (by decide))) ?_ ?_).trans (congrArg UInt64.toNat key).symm
    · have hx := sgn_bit x
      have hy := sgn_bit y
      show 9223372036854775808 * ((x.toNat / 2 ^ 63 + y.toNat / 2 ^ 63) % 2) = _
      rw [hx, hy]
      cases (x.toNat / 2 ^ 63 == 1) <;> cases (y.toNat / 2 ^ 63 == 1) <;> rfl
    · rw [key]; rfl

noncomputable def lg1 (x a : Nat) : Nat := cond (Nat.ble 2 x) (Nat.succ a) a
noncomputable def lg2 (x a : Nat) : Nat := cond (Nat.ble 4 x) (lg1 (Nat.div x 4) (Nat.add 2 a)) (lg1 x a)
noncomputable def lg4 (x a : Nat) : Nat := cond (Nat.ble 16 x) (lg2 (Nat.div x 16) (Nat.add 4 a)) (lg2 x a)
noncomputable def lg8 (x a : Nat) : Nat := cond (Nat.ble 256 x) (lg4 (Nat.div x 256) (Nat.add 8 a)) (lg4 x a)
noncomputable def lg16 (x a : Nat) : Nat := cond (Nat.ble 65536 x) (lg8 (Nat.div x 65536) (Nat.add 16 a)) (lg8 x a)
noncomputable def lg32 (x a : Nat) : Nat := cond (Nat.ble 4294967296 x) (lg16 (Nat.div x 4294967296) (Nat.add 32 a)) (lg16 x a)
noncomputable def lg64 (x a : Nat) : Nat := cond (Nat.ble 18446744073709551616 x) (lg32 (Nat.div x 18446744073709551616) (Nat.add 64 a)) (lg32 x a)
noncomputable def lgN (x : Nat) : Nat := cond (Nat.ble 340282366920938463463374607431768211456 x) (lg64 (Nat.div x 340282366920938463463374607431768211456) 128) (lg64 x 0)

noncomputable def add4 (m j sg slow : Nat) : Nat := fc (Nat.sub (Nat.add 52 j) (lgN m)) fun s => rb m (Nat.pow 2 j) s sg slow
noncomputable def add3 (x y p q j : Nat) : Nat :=
  cond (Nat.beq (nS x) (nS y)) (fc (Nat.add p q) fun m => add4 m j (Nat.mul 9223372036854775808 (nS x)) (fadd x.toUInt64 y.toUInt64).toNat)
    (cond (Nat.beq p q) 0 (cond (Nat.ble q p) (fc (Nat.sub p q) fun m => add4 m j (Nat.mul 9223372036854775808 (nS x)) (fadd x.toUInt64 y.toUInt64).toNat)
      (fc (Nat.sub q p) fun m => add4 m j (Nat.mul 9223372036854775808 (nS y)) (fadd x.toUInt64 y.toUInt64).toNat)))
noncomputable def add2 (x y e f : Nat) : Nat := fc (Nat.mul (nM x) (Nat.pow 2 (Nat.sub e f))) fun p => fc (Nat.mul (nM y) (Nat.pow 2 (Nat.sub f e))) fun q => fc (Nat.sub 1075 (Nat.sub e (Nat.sub e f))) fun j => add3 x y p q j
noncomputable def nadd (x y : Nat) : Nat := cond (and (gd x) (gd y)) (fc (nE x) fun e => fc (nE y) fun f => add2 x y e f) (fadd x.toUInt64 y.toUInt64).toNat

theorem neg75 {E : Nat} (h : E ≤ 1074) : (E : Int) - 1075 = -((1075 - E : Nat) : Int) := by
  rw [Int.ofNat_sub (Nat.le_succ_of_le h), Int.neg_sub]; rfl
theorem tn75 (E : Nat) : (-((E : Int) - 1075)).toNat = 1075 - E := by rw [Int.neg_sub]; exact Int.toNat_sub 1075 E
theorem sub75 (e f : Nat) : ((e : Int) - 1075 - ((f : Int) - 1075)).toNat = e - f := by
  rw [show (e : Int) - 1075 - ((f : Int) - 1075) = e - f by omega/-k-/, Int.toNat_sub]
theorem sgn_pp {P Q : Nat} (hP : 0 < P) : ((P : Int) + (Q : Int) ≠ 0) ∧ decide ((P : Int) + (Q : Int) < 0) = false ∧ ((P : Int) + (Q : Int)).natAbs = P + Q := ⟨by omega/-k-/, decide_eq_false (by omega/-k-/), rfl⟩
theorem sgn_mm {P Q : Nat} (hP : 0 < P) : (-(P : Int) + -(Q : Int) ≠ 0) ∧ decide (-(P : Int) + -(Q : Int) < 0) = true ∧ (-(P : Int) + -(Q : Int)).natAbs = P + Q := ⟨by omega/-k-/, decide_eq_true (by omega/-k-/), by omega/-k-/⟩
theorem sgn_pm {P Q : Nat} (h : Q ≤ P) (hne : P ≠ Q) : ((P : Int) + -(Q : Int) ≠ 0) ∧ decide ((P : Int) + -(Q : Int) < 0) = false ∧ ((P : Int) + -(Q : Int)).natAbs = P - Q := ⟨by omega/-k-/, decide_eq_false (by omega/-k-/), by omega/-k-/⟩
theorem sgn_mp {P Q : Nat} (h : P < Q) : ((P : Int) + -(Q : Int) ≠ 0) ∧ decide ((P : Int) + -(Q : Int) < 0) = true ∧ ((P : Int) + -(Q : Int)).natAbs = Q - P := ⟨by omega/-k-/, decide_eq_true (by omega/-k-/), by omega/-k-/⟩
theorem align_good (x y : UInt64) (a b : Bool) : align a (nM x.toNat) ((nE x.toNat : Int) - 1075) b (nM y.toNat) ((nE y.toNat : Int) - 1075) =
    (sgn a (nM x.toNat * 2 ^ (nE x.toNat - nE y.toNat)), sgn b (nM y.toNat * 2 ^ (nE y.toNat - nE x.toNat)), ((nE x.toNat - (nE x.toNat - nE y.toNat) : Nat) : Int) - 1075) := by
  unfold align
  rcases Nat.le_total (nE y.toNat) (nE x.toNat) with q | q
  · rw [Int.min_eq_right (Int.sub_le_sub_right (Int.ofNat_le.mpr q) _), Nat.sub_sub_self q]
    dsimp only
    rw [sub75, sub75, Nat.sub_self, Nat.sub_eq_zero_of_le q]
  · rw [Int.min_eq_left (Int.sub_le_sub_right (Int.ofNat_le.mpr q) _), Nat.sub_eq_zero_of_le q, Nat.sub_zero]
    dsimp only
    rw [sub75, sub75, Nat.sub_self]

theorem nadd_eq (x y : UInt64) : nadd x.toNat y.toNat = (fadd x y).toNat := by
  unfold nadd
  cases c : (and (gd x.toNat) (gd y.toNat)) with
  | false => rw [cond_false, toU, toU]
  | true =>
    rw [Bool.and_eq_true] at c
    obtain ⟨cx, cy⟩ := c
    obtain ⟨x1, x2⟩ := gd_iff.mp cx
    obtain ⟨y1, y2⟩ := gd_iff.mp cy
    rw [cond_true]
    unfold add2 add3 add4
    simp only [fc_eq, toU]
    generalize hj : Nat.sub 1075 (Nat.sub (nE x.toNat) (Nat.sub (nE x.toNat) (nE y.toNat))) = j
    have hj' : j = 1075 - (nE x.toNat - (nE x.toNat - nE y.toNat)) := hj.symm
    have key : fadd x y = (let p := sgn (x.toNat / 2 ^ 63 == 1) (nM x.toNat * 2 ^ (nE x.toNat - nE y.toNat)); let q := sgn (y.toNat / 2 ^ 63 == 1) (nM y.toNat * 2 ^ (nE y.toNat - nE x.toNat));
        if p + q = 0 then zero ((x.toNat / 2 ^ 63 == 1) && (y.toNat / 2 ^ 63 == 1)) else ofFrac (decide (p + q < 0)) (p + q).natAbs (2 ^ j)) := by
      show Float64.add x y = _
      unfold Float64.add
      rw [dec_good cx, dec_good cy]
      dsimp only
      rw [align_good]
      dsimp only
      have hb : ∀ (nn : Bool) (m : Nat), ofBin nn m (((nE x.toNat - (nE x.toNat - nE y.toNat) : Nat) : Int) - 1075) = ofFrac nn m (2 ^ j) := fun nn m => by
        unfold ofBin
        rw [show (((nE x.toNat - (nE x.toNat - nE y.toNat) : Nat) : Int) - 1075) = -((j : Nat) : Int) by (walk_at "my ol"), shift_neg']
        simp only [Nat.one_mul]
      rw [hb]
      simp only [beq_iff_eq]
    have hP : 0 < nM x.toNat * 2 ^ (nE x.toNat - nE y.toNat) := Nat.mul_pos (by show 0 < 4503599627370496 + _; (walk_at "my ol")) (Nat.pow_pos (by decide))
    have hQ : 0 < nM y.toNat * 2 ^ (nE y.toNat - nE x.toNat) := Nat.mul_pos (by show 0 < 4503599627370496 + _; (walk_at "my ol")) (Nat.pow_pos (by decide))
    show cond (Nat.beq (x.toNat / 2 ^ 63) (y.toNat / 2 ^ 63)) _ (cond (Nat.beq (nM x.toNat * 2 ^ (nE x.toNat - nE y.toNat)) (nM y.toNat * 2 ^ (nE y.toNat - nE x.toNat))) 0 _) = _
    have hx := sgn_bit x
    have hy := sgn_bit y
    show cond _ (rb (nM x.toNat * 2 ^ (nE x.toNat - nE y.toNat) + nM y.toNat * 2 ^ (nE y.toNat - nE x.toNat)) (2 ^ j) _ (9223372036854775808 * (x.toNat / 2 ^ 63)) _)
      (cond _ 0 (cond (Nat.ble (nM y.toNat * 2 ^ (nE y.toNat - nE x.toNat)) (nM x.toNat * 2 ^ (nE x.toNat - nE y.toNat)))
        (rb (nM x.toNat * 2 ^ (nE x.toNat - nE y.toNat) - nM y.toNat * 2 ^ (nE y.toNat - nE x.toNat)) (2 ^ j) _ (9223372036854775808 * (x.toNat / 2 ^ 63)) _)
        (rb (nM y.toNat * 2 ^ (nE y.toNat - nE x.toNat) - nM x.toNat * 2 ^ (nE x.toNat - nE y.toNat)) (2 ^ j) _ (9223372036854775808 * (y.toNat / 2 ^ 63)) _))) = _
    generalize nM x.toNat * 2 ^ (nE x.toNat - nE y.toNat) = P at *
    generalize nM y.toNat * 2 ^ (nE y.toNat - nE x.toNat) = Q at *
    have h2 : 0 < 2 ^ j := Nat.pow_pos (by decide)
    have fin : ∀ (nn : Bool) (m s sg : Nat), fadd x y = ofFrac nn m (2 ^ j) → (sg = if nn then 2 ^ 63 else 0) → rb m (2 ^ j) s sg (fadd x y).toNat = (fadd x y).toNat := fun nn m s sg e hs => by
      rw [rb_eq nn m (2 ^ j) s sg _ h2 hs (by rw [e]), e]
    rw [hx, hy]
    generalize (x.toNat / 2 ^ 63 == 1) = sx at key ⊢
    generalize (y.toNat / 2 ^ 63 == 1) = sy at key ⊢
    have k0 : ∀ p q : Int, sgn sx P = p → sgn sy Q = q → p + q = 0 → fadd x y = zero (sx && sy) := fun p q hp hq e => by subst hp hq; exact key.trans (if_pos e)
    have k1 : ∀ p q : Int, sgn sx P = p → sgn sy Q = q → p + q ≠ 0 → fadd x y = ofFrac (decide (p + q < 0)) (p + q).natAbs (2 ^ j) := fun p q hp hq e => by subst hp hq; exact key.trans (if_neg e)
    clear key hx hy
    cases sx <;> cases sy
    · obtain ⟨s1, s2, s3⟩ := sgn_pp (Q := Q) hP
      show rb (P + Q) (2 ^ j) _ _ _ = _
      refine fin false _ _ _ ?_ rfl
      rw [k1 P Q rfl rfl s1, s2, s3]
    · show (cond (Nat.beq P Q) 0 (cond (Nat.ble Q P) _ _)) = _
      by_cases hpq : P = Q
      · rw [show Nat.beq P Q = true from Nat.beq_eq.mpr hpq, k0 P (-Q) rfl rfl (by rw [hpq, Int.add_right_neg])]; rfl
      · rw [show Nat.beq P Q = false from beqf hpq]
        show cond (Nat.ble Q P) _ _ = _
        rcases Nat.lt_or_ge P Q with q | q
        · rw [show Nat.ble Q P = false from by rw [← Bool.not_eq_true, Nat.ble_eq]; exact Nat.not_le.mpr q]
          obtain ⟨s1, s2, s3⟩ := sgn_mp q
          refine fin true _ _ _ ?_ rfl
          rw [k1 P (-Q) rfl rfl s1, s2, s3]
        · rw [show Nat.ble Q P = true from Nat.ble_eq.mpr q]
          obtain ⟨s1, s2, s3⟩ := sgn_pm q hpq
          refine fin false _ _ _ ?_ rfl
          rw [k1 P (-Q) rfl rfl s1, s2, s3]
    · show (cond (Nat.beq P Q) 0 (cond (Nat.ble Q P) _ _)) = _
      by_cases hpq : P = Q
      · rw [show Nat.beq P Q = true from Nat.beq_eq.mpr hpq, k0 (-P) Q rfl rfl (by rw [hpq, Int.add_left_neg])]; rfl
      · rw [show Nat.beq P Q = false from beqf hpq]
        show cond (Nat.ble Q P) _ _ = _
        rcases Nat.lt_or_ge P Q with q | q
        · rw [show Nat.ble Q P = false from by rw [← Bool.not_eq_true, Nat.ble_eq]; exact Nat.not_le.mpr q]
          obtain ⟨s1, s2, s3⟩ := sgn_pm (Nat.le_of_lt q) (Ne.symm hpq)
          refine fin false _ _ _ ?_ rfl
          rw [Int.add_comm] at s1 s2 s3; rw [k1 (-P) Q rfl rfl s1, s2, s3]
        · rw [show Nat.ble Q P = true from Nat.ble_eq.mpr q]
          obtain ⟨s1, s2, s3⟩ := sgn_mp (Nat.lt_of_le_of_ne q (Ne.symm hpq))
          refine fin true _ _ _ ?_ rfl
          rw [Int.add_comm] at s1 s2 s3; rw [k1 (-P) Q rfl rfl s1, s2, s3]
    · obtain ⟨s1, s2, s3⟩ := sgn_mm (Q := Q) hP
      show rb (P + Q) (2 ^ j) _ _ _ = _
      refine fin true _ _ _ ?_ rfl
      rw [k1 (-P) (-Q) rfl rfl s1, s2, s3]
end
end
section
open PySem.Float64 in
section
noncomputable def gp (x : Nat) : Bool := and (gd x) (Nat.blt x 9223372036854775808)
noncomputable def ok (x : Nat) : Bool := or (Nat.beq x 0) (gp x)
noncomputable def V (x : Nat) : Nat := cond (Nat.beq x 0) 0 (nM x * 2 ^ (nE x - 1))
theorem gp_iff {x : Nat} : gp x = true ↔ 900 ≤ nE x ∧ nE x ≤ 1074 ∧ x < 2 ^ 63 := by
  unfold gp
  rw [Bool.and_eq_true, gd_iff, Nat.blt_eq]
  exact and_assoc
theorem nE_eq {x : Nat} : nE x = x / 2 ^ 52 % 2048 := rfl
theorem nM_eq {x : Nat} : nM x = 2 ^ 52 + x % 2 ^ 52 := rfl
theorem gp_split {x : Nat} (h : x < 2 ^ 63) : x = nE x * 2 ^ 52 + x % 2 ^ 52 := by
  rw [nE_eq]; (walk_at "my ol")
theorem dec_gp {x : UInt64} (h : gp x.toNat = true) : decode x = .fin false (nM x.toNat) ((nE x.toNat : Int) - 1075) := by
  obtain ⟨h1, h2, h3⟩ := gp_iff.mp h
  rw [dec_good (gd_iff.mpr ⟨h1, h2⟩)]
  congr 1
  simp; (walk_at "my ol")
theorem dec_zero : decode 0 = .fin false 0 (-1074) := by simp [decode]
theorem zero_of {x : UInt64} (h : Nat.beq x.toNat 0 = true) : x = 0 := by
  have := Nat.beq_eq.mp h
  exact UInt64.toNat_inj.mp this
/-- what a good number is, in one form -/
theorem dec_ok {x : UInt64} (h : ok x.toNat = true) : ∃ m e : Nat, decode x = .fin false m ((e : Int) - 1074) ∧ V x.toNat = m * 2 ^ e := by
  unfold ok at h
  unfold V
  cases c : Nat.beq x.toNat 0 with
  | true =>
    refine ⟨0, 0, ?_, by simp⟩
    rw [zero_of c, dec_zero]; rfl
  | false =>
    rw [c, Bool.false_or] at h
    obtain ⟨h1, h2, h3⟩ := gp_iff.mp h
    refine ⟨nM x.toNat, nE x.toNat - 1, ?_, by simp⟩
    rw [dec_gp h]
    congr 1
    (walk_at "my ol")
theorem vl {a k : Nat} (h : 900 ≤ a) : a + k + 1 - 1 = a - 1 + (k + 1) := by (walk_at "my ol")
theorem V_lt {x y : Nat} (hx : ok x = true) (hy : ok y = true) (h : x < y) : V x < V y := by
  have hy0 : Nat.beq y 0 = false := beqf (by (walk_at "my ol"))
  unfold ok at hx hy
  rw [hy0, Bool.false_or] at hy
  obtain ⟨y1, y2, y3⟩ := gp_iff.mp hy
  unfold V
  rw [hy0, cond_false]
  cases c : Nat.beq x 0 with
  | true =>
    rw [cond_true, nM_eq]
    exact Nat.mul_pos (by (walk_at "my ol")) (Nat.pow_pos (by decide))
  | false =>
    rw [cond_false]
    rw [c, Bool.false_or] at hx
    obtain ⟨x1, x2, x3⟩ := gp_iff.mp hx
    have ex := gp_split x3
    have ey := gp_split y3
    rw [nM_eq, nM_eq]
    rcases Nat.lt_trichotomy (nE x) (nE y) with q | q | q
    · obtain ⟨k, hk⟩ := Nat.exists_eq_add_of_lt q
      rw [show nE y - 1 = (nE x - 1) + (k + 1) from hk ▸ vl x1, Nat.pow_add, Nat.pow_succ]
      have p1 : 0 < 2 ^ k := Nat.pow_pos (by decide)
      have p2 : 0 < 2 ^ (nE x - 1) := Nat.pow_pos (by decide)
      calc (2 ^ 52 + x % 2 ^ 52) * 2 ^ (nE x - 1) < (2 ^ 53) * 2 ^ (nE x - 1) := Nat.mul_lt_mul_of_pos_right (by (walk_at "my ol")) p2
        _ ≤ ((2 ^ 52 + y % 2 ^ 52) * (2 ^ k * 2)) * 2 ^ (nE x - 1) := Nat.mul_le_mul_right _ (by
            calc 2 ^ 53 = 2 ^ 52 * (1 * 2) := by decide
              _ ≤ (2 ^ 52 + y % 2 ^ 52) * (2 ^ k * 2) := Nat.mul_le_mul (by (walk_at "my ol")) (Nat.mul_le_mul_right _ p1))
        _ = (2 ^ 52 + y % 2 ^ 52) * (2 ^ (nE x - 1) * (2 ^ k * 2)) := by rw [Nat.mul_assoc, Nat.mul_comm (2 ^ k * 2)]
    · rw [q]
      rw [q] at ex
      exact Nat.mul_lt_mul_of_pos_right (by (walk_at "my ol")) (Nat.pow_pos (by decide))
    · exfalso; (walk_at "my ol")
theorem mnT (e f : Nat) : ((e : Int) - 1074 - min ((e : Int) - 1074) ((f : Int) - 1074)).toNat = e - min e f := by
  rcases Nat.le_total e f with h | h
  · rw [Int.min_eq_left (Int.sub_le_sub_right (Int.ofNat_le.mpr h) _), Int.sub_self, Nat.min_eq_left h, Nat.sub_self]; rfl
  · rw [Int.min_eq_right (Int.sub_le_sub_right (Int.ofNat_le.mpr h) _), Nat.min_eq_right h, show (e : Int) - 1074 - ((f : Int) - 1074) = e - f by omega/-k-/, Int.toNat_sub]
theorem cmp_ok {x y : UInt64} (hx : ok x.toNat = true) (hy : ok y.toNat = true) : cmp x y = some (compare x.toNat y.toNat) := by
  obtain ⟨m, e, h1, h2⟩ := dec_ok hx
  obtain ⟨k, f, h3, h4⟩ := dec_ok hy
  unfold cmp
  rw [h1, h3]
  dsimp only
  unfold align
  dsimp only [sgn]
  simp only [Bool.false_eq_true, if_false]
  congr 1
  have e2 := mnT f e
  rw [Int.min_comm, Nat.min_comm] at e2
  rw [mnT, e2]
  have k1 : V x.toNat = m * 2 ^ (e - min e f) * 2 ^ (min e f) := by rw [h2, Nat.mul_assoc, ← Nat.pow_add, Nat.sub_add_cancel (Nat.min_le_left e f)]
  have k2 : V y.toNat = k * 2 ^ (f - min e f) * 2 ^ (min e f) := by rw [h4, Nat.mul_assoc, ← Nat.pow_add, Nat.sub_add_cancel (Nat.min_le_right e f)]
  have hp : 0 < 2 ^ (min e f) := Nat.pow_pos (by decide)
  rcases Nat.lt_trichotomy x.toNat y.toNat with q | q | q
  · have := V_lt hx hy q
    rw [k1, k2] at this
    have := Nat.lt_of_mul_lt_mul_right this
    rw [Nat.compare_eq_lt.mpr q]
    exact Int.compare_eq_lt.mpr (by exact_mod_cast this)
  · rw [q, k2] at k1
    have := Nat.eq_of_mul_eq_mul_right hp k1
    rw [Nat.compare_eq_eq.mpr q, this]
    exact Int.compare_eq_eq.mpr rfl
  · have := V_lt hy hx q
    rw [k1, k2] at this
    have := Nat.lt_of_mul_lt_mul_right this
    rw [Nat.compare_eq_gt.mpr q]
    exact Int.compare_eq_gt.mpr (by exact_mod_cast this)
noncomputable def nlt (x y : Nat) : Bool := cond (and (ok x) (ok y)) (Nat.blt x y) (flt x.toUInt64 y.toUInt64)
noncomputable def nle (x y : Nat) : Bool := cond (and (ok x) (ok y)) (Nat.ble x y) (fle x.toUInt64 y.toUInt64)
noncomputable def neq (x y : Nat) : Bool := cond (and (ok x) (ok y)) (Nat.beq x y) (feq x.toUInt64 y.toUInt64)
theorem bool_ext {a b : Bool} (h : a = true ↔ b = true) : a = b := by cases a <;> cases b <;> simp_all
theorem nlt_eq (x y : UInt64) : nlt x.toNat y.toNat = flt x y := by
  unfold nlt
  cases c : (and (ok x.toNat) (ok y.toNat)) with
  | false => rw [cond_false, toU, toU]
  | true =>
    rw [Bool.and_eq_true] at c
    rw [cond_true]
    unfold flt
    rw [cmp_ok c.1 c.2]
    refine bool_ext ?_
    rw [Nat.blt_eq]
    rcases Nat.lt_trichotomy x.toNat y.toNat with q | q | q
    · rw [Nat.compare_eq_lt.mpr q]; simp [q]
    · rw [Nat.compare_eq_eq.mpr q]; simp [q]
    · rw [Nat.compare_eq_gt.mpr q]; simp; (walk_at "my ol")
theorem nle_eq (x y : UInt64) : nle x.toNat y.toNat = fle x y := by
  unfold nle
  cases c : (and (ok x.toNat) (ok y.toNat)) with
  | false => rw [cond_false, toU, toU]
  | true =>
    rw [Bool.and_eq_true] at c
    rw [cond_true]
    unfold fle
    rw [cmp_ok c.1 c.2]
    refine bool_ext ?_
    rw [Nat.ble_eq]
    rcases Nat.lt_trichotomy x.toNat y.toNat with q | q | q
    · rw [Nat.compare_eq_lt.mpr q]; simp; (walk_at "my ol")
    · rw [Nat.compare_eq_eq.mpr q]; simp [q]
    · rw [Nat.compare_eq_gt.mpr q]; simp; (walk_at "my ol")
theorem neq_eq (x y : UInt64) : neq x.toNat y.toNat = feq x y := by
  unfold neq
  cases c : (and (ok x.toNat) (ok y.toNat)) with
  | false => rw [cond_false, toU, toU]
  | true =>
    rw [Bool.and_eq_true] at c
    rw [cond_true]
    unfold feq
    rw [cmp_ok c.1 c.2]
    refine bool_ext ?_
    rw [Nat.beq_eq]
    rcases Nat.lt_trichotomy x.toNat y.toNat with q | q | q
    · rw [Nat.compare_eq_lt.mpr q]; simp; (walk_at "my ol")
    · rw [Nat.compare_eq_eq.mpr q]; simp [q]
    · rw [Nat.compare_eq_gt.mpr q]; simp; (walk_at "my ol")

theorem bits_eq (x : Nat) : x = x / 2 ^ 63 * 2 ^ 63 + nE x * 2 ^ 52 + x % 2 ^ 52 := by
  have a := Nat.div_add_mod x (2 ^ 52)
  have b := Nat.div_add_mod (x / 2 ^ 52) 2048
  rw [Nat.div_div_eq_div_mul] at b
  have c : x / 2 ^ 63 = x / (2 ^ 52 * 2048) := rfl
  rw [nE_eq, c]
  generalize x / (2 ^ 52 * 2048) = C at *
  generalize x / 2 ^ 52 % 2048 = E at *
  generalize x / 2 ^ 52 = A at *
  generalize x % 2 ^ 52 = r at *
  clear c
  (walk_at "my ol")
theorem le1000 {E : Nat} (h : 900 ≤ E) : 1075 - E ≤ 1000 := by (walk_at "my ol")
theorem ge1 {E : Nat} (h : E ≤ 1074) : 1 ≤ 1075 - E := by (walk_at "my ol")
theorem e74 {E : Nat} (h1 : 900 ≤ E) (h2 : E ≤ 1074) : 1074 - (1075 - E) + 1 = E := by (walk_at "my ol")
theorem halfEven_mul (m d : Nat) (hd : 0 < d) : halfEven (m * d) d = m := by
  unfold halfEven
  rw [Nat.mul_div_cancel _ hd, Nat.mul_mod_left]
  dsimp only
  rw [if_neg (by simp; (walk_at "my ol"))]
/-- a good number back from its parts -/
theorem ofFrac_good {x : UInt64} (h : gd x.toNat = true) : ofFrac (x.toNat / 2 ^ 63 == 1) (nM x.toNat * 2 ^ (nE x.toNat - 1)) (2 ^ 1074) = x := by
  obtain ⟨h1, h2⟩ := gd_iff.mp h
  have hn : nM x.toNat * 2 ^ (nE x.toNat - 1) * 2 ^ (1075 - nE x.toNat) = nM x.toNat * 2 ^ 1074 := by
    rw [Nat.mul_assoc, ← Nat.pow_add]; congr 2; (walk_at "my ol")
  have hd : 0 < 2 ^ 1074 := Nat.pow_pos (by decide)
  have hM : nM x.toNat / 2 ^ 52 = 1 := by rw [nM_eq]; (walk_at "my ol")
  obtain ⟨r1, r2, _⟩ := roundMag_fast (nM x.toNat * 2 ^ (nE x.toNat - 1)) (2 ^ 1074) (1075 - nE x.toNat) hd (ge1 h2) (le1000 h1) (by rw [hn, Nat.mul_div_cancel _ hd]; exact hM)
  apply UInt64.toNat_inj.mp
  unfold ofFrac
  rw [pack_toNat _ r2, r1, hn, halfEven_mul _ _ hd]
  have := x.toNat_lt
  have hs := sgn_bit x
  have hsg : (if (x.toNat / 2 ^ 63 == 1) then 2 ^ 63 else 0) = (x.toNat / 2 ^ 63) * 2 ^ 63 := by
    rw [hs]; cases (x.toNat / 2 ^ 63 == 1) <;> rfl
  rw [hsg, nM_eq]
  have p := e74 h1 h2
  rw [← Nat.add_assoc (_ * 2 ^ 52), ← Nat.succ_mul, Nat.succ_eq_add_one, p, ← Nat.add_assoc]
  exact (bits_eq _).symm
theorem sgn_ne {s : Bool} {P : Nat} (h : 0 < P) : (sgn s P == 0) = false := by cases s <;> simp [sgn] <;> omega/-k-/
theorem sgn_lt {s : Bool} {P : Nat} (h : 0 < P) : decide (sgn s P < 0) = s := by cases s <;> simp [sgn] <;> omega/-k-/
theorem sgn_abs {s : Bool} {P : Nat} : (sgn s P).natAbs = P := by cases s <;> simp [sgn]
theorem mn1 {e : Nat} (h : 900 ≤ e) : ((e : Int) - 1075 - -1074).toNat = e - 1 := by
  rw [show (e : Int) - 1075 - -1074 = e - (1 : Nat) by omega/-k-/, Int.toNat_sub]
theorem fadd_zero {x z : UInt64} (b : Bool) (hz : decode z = .fin b 0 (-1074)) (h : gd x.toNat = true) : fadd x z = x ∧ fadd z x = x := by
  obtain ⟨h1, h2⟩ := gd_iff.mp h
  have hM : 0 < nM x.toNat * 2 ^ (nE x.toNat - 1) := by rw [nM_eq]; exact Nat.mul_pos (Nat.add_pos_left (by decide) _) (Nat.pow_pos (by decide))
  have hk : (-1074 : Int) = -((1074 : Nat) : Int) := rfl
  have main : ∀ (nn : Bool) (m : Nat), ofBin nn m (-1074) = ofFrac nn m (2 ^ 1074) := fun nn m => by
    unfold ofBin
    rw [hk, shift_neg', Nat.one_mul]
  have e2 : min ((nE x.toNat : Int) - 1075) (-1074) = -1074 := Int.min_eq_right (by clear hM hk main h hz h2; omega/-k-/)
  have hsz : sgn b 0 = 0 := by cases b <;> rfl
  have fin : ofBin (decide (sgn (x.toNat / 2 ^ 63 == 1) (nM x.toNat * 2 ^ (nE x.toNat - 1)) < 0)) (sgn (x.toNat / 2 ^ 63 == 1) (nM x.toNat * 2 ^ (nE x.toNat - 1))).natAbs (-1074) = x := by
    rw [sgn_lt hM, sgn_abs, main]; exact ofFrac_good h
  have hne := sgn_ne (s := x.toNat / 2 ^ 63 == 1) hM
  have al1 : align (x.toNat / 2 ^ 63 == 1) (nM x.toNat) ((nE x.toNat : Int) - 1075) b 0 (-1074) = (sgn (x.toNat / 2 ^ 63 == 1) (nM x.toNat * 2 ^ (nE x.toNat - 1)), 0, -1074) := by
    unfold align; dsimp only; rw [e2, mn1 h1, Nat.zero_mul, hsz]
  have al2 : align b 0 (-1074) (x.toNat / 2 ^ 63 == 1) (nM x.toNat) ((nE x.toNat : Int) - 1075) = (0, sgn (x.toNat / 2 ^ 63 == 1) (nM x.toNat * 2 ^ (nE x.toNat - 1)), -1074) := by
    unfold align; dsimp only; rw [Int.min_comm, e2, mn1 h1, Nat.zero_mul, hsz]
  constructor
  · show Float64.add x z = x
    unfold Float64.add
    rw [dec_good h, hz]
    dsimp only
    rw [al1]
    dsimp only
    simp only [Int.add_zero]
    rw [hne, if_neg (by decide)]
    exact fin
  · show Float64.add z x = x
    unfold Float64.add
    rw [dec_good h, hz]
    dsimp only
    rw [al2]
    dsimp only
    simp only [Int.zero_add]
    rw [hne, if_neg (by decide)]
    exact fin
noncomputable def nadd0 (x y : Nat) : Nat := cond (and (Nat.beq (Nat.mod y 9223372036854775808) 0) (gd x)) x (cond (and (Nat.beq (Nat.mod x 9223372036854775808) 0) (gd y)) y (nadd x y))
theorem zero_dec {y : UInt64} (h : Nat.beq (Nat.mod y.toNat 9223372036854775808) 0 = true) : ∃ b, decode y = .fin b 0 (-1074) := by
  have h1 : y.toNat % 9223372036854775808 = 0 := Nat.beq_eq.mp h
  have := y.toNat_lt
  have : y.toNat = 0 ∨ y.toNat = 9223372036854775808 := by (walk_at "my ol")
  rcases this with q | q
  · exact ⟨false, by rw [show y = 0 from UInt64.toNat_inj.mp q]; simp [decode]⟩
  · exact ⟨true, by rw [show y = 9223372036854775808 from UInt64.toNat_inj.mp q]; simp [decode]⟩
theorem nadd0_eq (x y : UInt64) : nadd0 x.toNat y.toNat = (fadd x y).toNat := by
  unfold nadd0
  cases c : (and (Nat.beq (Nat.mod y.toNat 9223372036854775808) 0) (gd x.toNat)) with
  | true =>
    rw [Bool.and_eq_true] at c
    obtain ⟨b, hb⟩ := zero_dec c.1
    rw [cond_true, (fadd_zero b hb c.2).1]
  | false =>
    rw [cond_false]
    cases c : (and (Nat.beq (Nat.mod x.toNat 9223372036854775808) 0) (gd y.toNat)) with
    | true =>
      rw [Bool.and_eq_true] at c
      obtain ⟨b, hb⟩ := zero_dec c.1
      rw [cond_true, (fadd_zero b hb c.2).2]
    | false => rw [cond_false, nadd_eq]
noncomputable def nneg (x : Nat) : Nat := cond (gd x) (cond (Nat.ble 9223372036854775808 x) (Nat.sub x 9223372036854775808) (Nat.add x 9223372036854775808)) (Float64.neg x.toUInt64).toNat
theorem top1 {x : Nat} (h : x < 2 ^ 64) (d : 2 ^ 63 ≤ x) : x / 2 ^ 63 = 1 := by (walk_at "my ol")
theorem nneg_eq (x : UInt64) : nneg x.toNat = (Float64.neg x).toNat := by
  unfold nneg
  cases c : gd x.toNat with
  | false => rw [cond_false, toU]
  | true =>
    rw [cond_true]
    have hn : Float64.isNaN x = false := by unfold Float64.isNaN; rw [dec_good c]
    obtain ⟨h1, h2⟩ := neg_toNat hn
    have hx := x.toNat_lt
    have hy := (Float64.neg x).toNat_lt
    cases d : Nat.ble 9223372036854775808 x.toNat with
    | true =>
      have d' := Nat.ble_eq.mp d
      rw [cond_true]
      have : (x.toNat / 2 ^ 63 == 1) = true := by rw [top1 hx d']; rfl
      rw [this] at h2
      have hl : (Float64.neg x).toNat < 2 ^ 63 := Nat.lt_of_not_le fun q => by rw [top1 hy q] at h2; cases h2
      have e := h1
      rw [Nat.mod_eq_of_lt hl, Nat.mod_eq_sub_mod d', Nat.mod_eq_of_lt (Nat.sub_lt_right_of_lt_add d' hx)] at e
      exact e.symm
    | false =>
      have d' : x.toNat < 2 ^ 63 := Nat.lt_of_not_le fun q => by rw [Nat.ble_eq.mpr q] at d; cases d
      rw [cond_false]
      have : (x.toNat / 2 ^ 63 == 1) = false := by rw [Nat.div_eq_of_lt d']; rfl
      rw [this] at h2
      have hl : 2 ^ 63 ≤ (Float64.neg x).toNat := Nat.le_of_not_lt fun q => by rw [Nat.div_eq_of_lt q] at h2; cases h2
      have e := h1
      rw [Nat.mod_eq_of_lt d', Nat.mod_eq_sub_mod hl, Nat.mod_eq_of_lt (Nat.sub_lt_right_of_lt_add hl hy)] at e
      exact (Nat.sub_eq_iff_eq_add hl).mp e |>.symm
noncomputable def nsub (x y : Nat) : Nat := fc (nneg y) fun z => nadd0 x z
theorem nsub_eq (x y : UInt64) : nsub x.toNat y.toNat = (fsub x y).toNat := by
  unfold nsub
  rw [fc_eq, nneg_eq, nadd0_eq]
  unfold fsub fadd Float64.sub
  rfl
noncomputable def nmax (x y : Nat) : Nat := cond (nlt x y) y x
noncomputable def nmin (x y : Nat) : Nat := cond (nlt y x) y x
theorem nmax_eq (x y : UInt64) : nmax x.toNat y.toNat = (fmax x y).toNat := by
  unfold nmax fmax; rw [nlt_eq]; cases flt x y <;> rfl
theorem nmin_eq (x y : UInt64) : nmin x.toNat y.toNat = (fmin x y).toNat := by
  unfold nmin fmin; rw [nlt_eq]; cases flt y x <;> rfl
end
end
section
open PySem.Float64 in
section
theorem ofFrac_small {x : UInt64} (h : gp x.toNat = true) : ofFrac false (nM x.toNat) (2 ^ (1075 - nE x.toNat)) = x := by
  obtain ⟨h1, h2, h3⟩ := gp_iff.mp h
  have hd : 0 < 2 ^ (1075 - nE x.toNat) := Nat.pow_pos (by decide)
  have hM : nM x.toNat / 2 ^ 52 = 1 := by rw [nM_eq]; (walk_at "my ol")
  obtain ⟨r1, r2, _⟩ := roundMag_fast (nM x.toNat) (2 ^ (1075 - nE x.toNat)) (1075 - nE x.toNat) hd (ge1 h2) (le1000 h1) (by rw [Nat.mul_div_cancel _ hd]; exact hM)
  apply UInt64.toNat_inj.mp
  unfold ofFrac
  rw [pack_toNat _ r2, r1, halfEven_mul _ _ hd, if_neg (by decide)]
  have p := e74 h1 h2
  rw [nM_eq, Nat.zero_add, ← Nat.add_assoc, ← Nat.succ_mul, Nat.succ_eq_add_one, p]
  exact (gp_split h3).symm
theorem dec_one : decode 4607182418800017408 = .fin false (2 ^ 52) (-52) := by simp [decode]
theorem ofBin_52 (r : Nat) : ofBin false r (-52) = ofFrac false r (2 ^ 52) := by
  unfold ofBin
  rw [show (-52 : Int) = -((52 : Nat) : Int) from rfl, shift_neg']
theorem ofFrac_zero (d : Nat) : ofFrac false 0 d = 0 := by
  unfold ofFrac
  rw [show roundMag 0 d = 0 from by unfold roundMag; rfl]
  rfl
theorem lt_zero_gp {y : UInt64} (h : gp y.toNat = true) : Float64.lt y (zero false) = false := by
  unfold Float64.lt
  rw [cmp_ok (by unfold ok; rw [h, Bool.or_true]) (by rfl)]
  rw [show (zero false).toNat = 0 from rfl]
  obtain ⟨h1, h2, h3⟩ := gp_iff.mp h
  have : 0 < y.toNat := by
    rcases Nat.eq_zero_or_pos y.toNat with q | q
    · rw [nE_eq, q] at h1; (walk_at "my ol")
    · exact q
  rw [Nat.compare_eq_gt.mpr this]; rfl
theorem isZero_gp {y : UInt64} (h : gp y.toNat = true) : isZero y = false := by
  unfold isZero
  rw [dec_gp h]
  have : nM y.toNat ≠ 0 := by rw [nM_eq]; (walk_at "my ol")
  split
  · rename_i q; injection q with _ q _; exact absurd q this
  · rfl
theorem lt_one_zero : Float64.lt 4607182418800017408 (zero false) = false := lt_zero_gp (by decide)
theorem isZero_zero : isZero 0 = true := by unfold isZero; rw [dec_zero]; rfl
theorem mod1_of_fmod {x y : UInt64} (e : Float64.fmod x 4607182418800017408 = y) (h : gp y.toNat = true ∨ y = 0) : fmod1 x = y := by
  unfold fmod1 divmod
  rw [e]
  rcases h with h | h
  · dsimp only
    rw [if_neg (by rw [isZero_gp h]; decide), lt_zero_gp h, lt_one_zero, if_neg (by decide)]
  · subst h
    dsimp only
    rw [if_pos isZero_zero]
    show copysign (zero false) 4607182418800017408 = 0
    decide +kernel
theorem b52 {E : Nat} (h : E ≤ 1022) : (E : Int) - 1075 ≤ -52 := by (walk_at "my ol")
theorem c52 {E : Nat} (h : 1023 ≤ E) : -52 ≤ (E : Int) - 1075 := by (walk_at "my ol")
theorem tn23 {E : Nat} : (-52 - ((E : Int) - 1075)).toNat = 1023 - E := by
  rw [show -52 - ((E : Int) - 1075) = (1023 : Nat) - E by omega/-k-/, Int.toNat_sub]
theorem tn53 {E : Nat} : ((E : Int) - 1075 - -52).toNat = E - 1023 := by
  rw [show (E : Int) - 1075 - -52 = E - (1023 : Nat) by omega/-k-/, Int.toNat_sub]
theorem fmod_lo {x : UInt64} (h : gp x.toNat = true) (hE : nE x.toNat ≤ 1022) : Float64.fmod x 4607182418800017408 = x := by
  obtain ⟨h1, h2, h3⟩ := gp_iff.mp h
  unfold Float64.fmod
  rw [dec_gp h, dec_one]
  dsimp only
  rw [if_neg (by decide)]
  have al : align false (nM x.toNat) ((nE x.toNat : Int) - 1075) false (2 ^ 52) (-52) = (((nM x.toNat : Nat) : Int), ((2 ^ 52 * 2 ^ (1023 - nE x.toNat) : Nat) : Int), (nE x.toNat : Int) - 1075) := by
    unfold align
    dsimp only
    rw [Int.min_eq_left (b52 hE)]
    rw [show ((nE x.toNat : Int) - 1075 - ((nE x.toNat : Int) - 1075)).toNat = 0 by (walk_at "my ol"), tn23]
    simp [sgn]
  rw [al]
  dsimp only
  simp only [Int.toNat_natCast]
  rw [Nat.mod_eq_of_lt (by
    obtain ⟨k, hk⟩ : ∃ k, 1023 - nE x.toNat = k + 1 := ⟨1022 - nE x.toNat, Nat.succ_sub hE⟩
    have hp : 1 ≤ 2 ^ k := Nat.pow_pos (by decide)
    rw [hk, Nat.pow_succ, nM_eq]
    exact Nat.lt_of_lt_of_le (by (walk_at "my ol") : 2 ^ 52 + x.toNat % 2 ^ 52 < 2 ^ 52 * (1 * 2)) (Nat.mul_le_mul_left _ (Nat.mul_le_mul_right _ hp)))]
  unfold ofBin
  rw [neg75 h2, shift_neg']
  simp only [Nat.one_mul]
  exact ofFrac_small h
theorem fmod_hi {x : UInt64} (h : gp x.toNat = true) (hE : 1023 ≤ nE x.toNat) : Float64.fmod x 4607182418800017408 = ofFrac false (nM x.toNat * 2 ^ (nE x.toNat - 1023) % 2 ^ 52) (2 ^ 52) := by
  obtain ⟨h1, h2, h3⟩ := gp_iff.mp h
  unfold Float64.fmod
  rw [dec_gp h, dec_one]
  dsimp only
  rw [if_neg (by decide)]
  have al : align false (nM x.toNat) ((nE x.toNat : Int) - 1075) false (2 ^ 52) (-52) = (((nM x.toNat * 2 ^ (nE x.toNat - 1023) : Nat) : Int), ((2 ^ 52 : Nat) : Int), -52) := by
    unfold align
    dsimp only
    rw [Int.min_eq_right (c52 hE)]
    rw [tn53]
    simp [sgn]
  rw [al]
  dsimp only
  simp only [Int.toNat_natCast]
  exact ofBin_52 _
theorem Nmod (a b : Nat) : Nat.mod a b = a % b := rfl
noncomputable def mod1a (x r : Nat) : Nat := cond (Nat.beq r 0) 0 (fc (Nat.sub 104 (lgN r)) fun s => fc (rb r 4503599627370496 s 0 (ofFrac false r 4503599627370496).toNat) fun y => cond (gp y) y (fmod1 x.toUInt64).toNat)
noncomputable def nmod1 (x : Nat) : Nat := cond (gp x) (cond (Nat.ble (nE x) 1022) x (fc (Nat.mod (Nat.mul (nM x) (Nat.pow 2 (Nat.sub (nE x) 1023))) 4503599627370496) fun r => mod1a x r)) (fmod1 x.toUInt64).toNat
theorem nmod1_eq (x : UInt64) : nmod1 x.toNat = (fmod1 x).toNat := by
  unfold nmod1 mod1a
  cases c : gp x.toNat with
  | false => rw [cond_false, toU]
  | true =>
    rw [cond_true]
    cases d : Nat.ble (nE x.toNat) 1022 with
    | true => rw [cond_true, mod1_of_fmod (fmod_lo c (Nat.ble_eq.mp d)) (.inl c)]
    | false =>
      have hE : 1023 ≤ nE x.toNat := by
        rcases Nat.lt_or_ge (nE x.toNat) 1023 with q | q
        · rw [Nat.ble_eq.mpr (by (walk_at "my ol"))] at d; cases d
        · exact q
      rw [cond_false]
      simp only [fc_eq, toU, Nmod, Nat.mul_eq, Nat.pow_eq, Nat.sub_eq]
      have e52 : (4503599627370496 : Nat) = 2 ^ 52 := by decide
      rw [e52]
      have hf := fmod_hi c hE
      generalize nM x.toNat * 2 ^ (nE x.toNat - 1023) % 2 ^ 52 = r at *
      cases e : Nat.beq r 0 with
      | true =>
        rw [cond_true]
        rw [Nat.beq_eq.mp e, ofFrac_zero] at hf
        rw [mod1_of_fmod hf (.inr rfl)]; rfl
      | false =>
        rw [cond_false]
        rw [rb_eq false r (2 ^ 52) _ 0 _ (Nat.pow_pos (by decide)) rfl rfl]
        cases g : gp (ofFrac false r (2 ^ 52)).toNat with
        | true => rw [cond_true, mod1_of_fmod hf (.inl g)]
        | false => rw [cond_false]
noncomputable def ntrunc (x : Nat) (k : Nat → Bool) : Bool := cond (Nat.beq x 0) (k 0) (cond (gp x) (fc (Nat.div (nM x) (Nat.pow 2 (Nat.sub 1075 (nE x)))) k) false)
theorem ntrunc_eq {x : UInt64} {k : Nat → Bool} (h : ntrunc x.toNat k = true) : ∃ i : Nat, ftrunc x = some (i : Int) ∧ k i = true := by
  unfold ntrunc at h
  cases c : Nat.beq x.toNat 0 with
  | true =>
    rw [c, cond_true] at h
    refine ⟨0, ?_, h⟩
    rw [zero_of c]
    unfold ftrunc
    rw [dec_zero]
    rfl
  | false =>
    rw [c, cond_false] at h
    cases d : gp x.toNat with
    | false => rw [d, cond_false] at h; cases h
    | true =>
      rw [d, cond_true, fc_eq] at h
      obtain ⟨h1, h2, h3⟩ := gp_iff.mp d
      refine ⟨_, ?_, h⟩
      unfold ftrunc
      rw [dec_gp d]
      dsimp only
      unfold truncOf floorOf
      rw [if_neg (by decide), if_neg (by (walk_at "my ol"))]
      rw [tn75]
      congr 1
      show Int.fdiv ((nM x.toNat : Nat) : Int) (2 ^ (1075 - nE x.toNat)) = ((nM x.toNat / 2 ^ (1075 - nE x.toNat) : Nat) : Int)
      rw [Int.fdiv_eq_ediv_of_nonneg _ (Int.le_of_lt (Int.pow_pos (by decide)))]
      simp
noncomputable def nround (x : Nat) (k : Nat → Bool) : Bool := cond (Nat.beq x 0) (k 0) (cond (gp x) (fc (he (nM x) (Nat.pow 2 (Nat.sub 1075 (nE x)))) k) false)
theorem nround_eq {x : UInt64} {k : Nat → Bool} (h : nround x.toNat k = true) : ∃ i : Nat, fround x = some (i : Int) ∧ k i = true := by
  unfold nround at h
  cases c : Nat.beq x.toNat 0 with
  | true =>
    rw [c, cond_true] at h
    refine ⟨0, ?_, h⟩
    rw [zero_of c]
    unfold fround
    rw [dec_zero]
    rfl
  | false =>
    rw [c, cond_false] at h
    cases d : gp x.toNat with
    | false => rw [d, cond_false] at h; cases h
    | true =>
      rw [d, cond_true, fc_eq] at h
      obtain ⟨h1, h2, h3⟩ := gp_iff.mp d
      refine ⟨_, ?_, h⟩
      unfold fround
      rw [dec_gp d]
      dsimp only
      unfold nearestOf
      rw [neg75 h2, shift_neg']
      dsimp only
      simp only [Nat.pow_eq, Nat.sub_eq]
      rw [he_eq _ _ (Nat.pow_pos (by decide)), Nat.one_mul]
      rfl
end
end
section
set_option linter.unusedSimpArgs false
theorem ifb {α : Type} (b : Bool) (x y : α) : (if b then x else y) = cond b x y := by cases b <;> rfl
section
noncomputable def nvf (m1 m2 hue : Nat) : Nat := fc (nmod1 hue) fun u =>
  cond (nlt u 4595172819793696085) (fc (nsub m2 m1) fun a => fc (nmul a u) fun b => fc (nmul b 4618441417868443648) fun c => nadd0 m1 c)
  (cond (nlt u 4602678819172646912) m2
  (cond (nlt u 4604180019048437077) (fc (nsub m2 m1) fun a => fc (nsub 4604180019048437077 u) fun z => fc (nmul a z) fun b => fc (nmul b 4618441417868443648) fun c => nadd0 m1 c) m1))
theorem k0 : (0 : UInt64).toNat = 0 := rfl
theorem k1 : (4595172819793696085 : UInt64).toNat = 4595172819793696085 := rfl
theorem k2 : (4602678819172646912 : UInt64).toNat = 4602678819172646912 := rfl
theorem k3 : (4604180019048437077 : UInt64).toNat = 4604180019048437077 := rfl
theorem k4 : (4618441417868443648 : UInt64).toNat = 4618441417868443648 := rfl
theorem k5 : (4607182418800017408 : UInt64).toNat = 4607182418800017408 := rfl
theorem k6 : (4611686018427387904 : UInt64).toNat = 4611686018427387904 := rfl
theorem k7 : (4599676419421066581 : UInt64).toNat = 4599676419421066581 := rfl
theorem k8 : (4616189618054758400 : UInt64).toNat = 4616189618054758400 := rfl
theorem nvf_eq (m1 m2 hue : UInt64) : nvf m1.toNat m2.toNat hue.toNat = (vfun m1 m2 hue).toNat := by
  unfold nvf vfun
  simp only [fc_eq, nmod1_eq, ← k1, ← k2, ← k3, ← k4, nlt_eq, nsub_eq, nmul_eq, nadd0_eq]
  cases flt (fmod1 hue) 4595172819793696085 <;> cases flt (fmod1 hue) 4602678819172646912 <;> cases flt (fmod1 hue) 4604180019048437077 <;> rfl
noncomputable def nhls2rgb (h l s : Nat) (k : Nat → Nat → Nat → Bool) : Bool :=
  cond (neq s 0) (k l l l)
  (fc (cond (nle l 4602678819172646912) (fc (nadd0 4607182418800017408 s) fun a => nmul l a) (fc (nadd0 l s) fun a => fc (nmul l s) fun b => nsub a b)) fun m2 =>
   fc (nmul 4611686018427387904 l) fun l2 => fc (nsub l2 m2) fun m1 =>
   fc (nadd0 h 4599676419421066581) fun hr => fc (nvf m1 m2 hr) fun r => fc (nvf m1 m2 h) fun g =>
   fc (nsub h 4599676419421066581) fun hb => fc (nvf m1 m2 hb) fun b => k r g b)
theorem nhls2rgb_eq (h l s : UInt64) (k : Nat → Nat → Nat → Bool) : nhls2rgb h.toNat l.toNat s.toNat k = k (hls2rgb h l s).1.toNat (hls2rgb h l s).2.1.toNat (hls2rgb h l s).2.2.toNat := by
  unfold nhls2rgb hls2rgb
  simp only [fc_eq]
  rw [show neq s.toNat 0 = feq s 0 from neq_eq s 0]
  cases feq s 0 with
  | true => rfl
  | false =>
    rw [cond_false, if_neg (by decide)]
    simp only [← k2, ← k5, ← k6, ← k7, nle_eq, nadd0_eq, nmul_eq, nsub_eq]
    cases fle l 4602678819172646912
    · simp only [cond_false, nmul_eq, nsub_eq, nadd0_eq, nvf_eq]; rfl
    · simp only [cond_true, nmul_eq, nsub_eq, nadd0_eq, nvf_eq]; rfl
noncomputable def nhue (r g maxc rangec b : Nat) (k : Nat → Bool) : Bool :=
  fc (nsub maxc r) fun a1 => fc (ndiv a1 rangec) fun rc =>
  fc (nsub maxc g) fun a2 => fc (ndiv a2 rangec) fun gc =>
  fc (nsub maxc b) fun a3 => fc (ndiv a3 rangec) fun bc =>
  fc (cond (neq r maxc) (nsub bc gc) (cond (neq g maxc) (fc (nadd0 4611686018427387904 rc) fun z => nsub z bc) (fc (nadd0 4616189618054758400 gc) fun z => nsub z rc))) fun h =>
  fc (ndiv h 4618441417868443648) fun h6 => fc (nmod1 h6) k
theorem nhue_eq (r g maxc rangec b : UInt64) (k : Nat → Bool) : nhue r.toNat g.toNat maxc.toNat rangec.toNat b.toNat k =
   k (fmod1 (fdiv (if feq r maxc then fsub (fdiv (fsub maxc b) rangec) (fdiv (fsub maxc g) rangec) else if feq g maxc then fsub (fadd 4611686018427387904 (fdiv (fsub maxc r) rangec)) (fdiv (fsub maxc b) rangec)
     else fsub (fadd 4616189618054758400 (fdiv (fsub maxc g) rangec)) (fdiv (fsub maxc r) rangec)) 4618441417868443648)).toNat := by
  unfold nhue
  simp only [fc_eq, ← k4, ← k6, ← k8, nsub_eq, ndiv_eq, neq_eq, nadd0_eq]
  cases feq r maxc
  · cases feq g maxc
    · simp only [cond_false, ndiv_eq, nmod1_eq]; rfl
    · simp only [cond_false, cond_true, ndiv_eq, nmod1_eq]; rfl
  · simp only [cond_true, ndiv_eq, nmod1_eq]; rfl
noncomputable def nrgb2hsv (r g b : Nat) (k : Nat → Nat → Nat → Bool) : Bool :=
  fc (nmax r g) fun m => fc (nmax m b) fun maxc => fc (nmin r g) fun n => fc (nmin n b) fun minc => fc (nsub maxc minc) fun rangec =>
  cond (neq minc maxc) (k 0 0 maxc)
  (cond (and (gp rangec) (gp maxc)) (fc (ndiv rangec maxc) fun s => nhue r g maxc rangec b fun h => k h s maxc) false)
theorem fzero_gp {x : UInt64} (h : gp x.toNat = true) : fzero x = false := isZero_gp h
theorem nrgb2hsv_eq {r g b : UInt64} {k : Nat → Nat → Nat → Bool} (h : nrgb2hsv r.toNat g.toNat b.toNat k = true) :
    ∃ x y z, rgb2hsv r g b = some (x, y, z) ∧ k x.toNat y.toNat z.toNat = true := by
  unfold nrgb2hsv at h
  simp only [fc_eq, nmax_eq, nmin_eq, nsub_eq, neq_eq] at h
  unfold rgb2hsv
  dsimp only
  cases c : feq (fmin (fmin r g) b) (fmax (fmax r g) b) with
  | true =>
    rw [c, cond_true] at h
    exact ⟨0, 0, _, rfl, h⟩
  | false =>
    rw [c, cond_false] at h
    cases d : (and (gp (fsub (fmax (fmax r g) b) (fmin (fmin r g) b)).toNat) (gp (fmax (fmax r g) b).toNat)) with
    | false => rw [d, cond_false] at h; cases h
    | true =>
      rw [d, cond_true, ndiv_eq, nhue_eq] at h
      rw [Bool.and_eq_true] at d
      rw [if_neg (by decide), fzero_gp d.1, fzero_gp d.2, if_neg (by decide), if_neg (by decide)]
      exact ⟨_, _, _, rfl, h⟩
noncomputable def nrgb2hls (r g b : Nat) (k : Nat → Nat → Nat → Bool) : Bool :=
  fc (nmax r g) fun m => fc (nmax m b) fun maxc => fc (nmin r g) fun n => fc (nmin n b) fun minc =>
  fc (nadd0 maxc minc) fun sumc => fc (nsub maxc minc) fun rangec => fc (ndiv sumc 4611686018427387904) fun l =>
  cond (neq minc maxc) (k 0 l 0)
  (fc (cond (nle l 4602678819172646912) sumc (fc (nsub 4611686018427387904 maxc) fun z => nsub z minc)) fun d =>
  cond (and (gp rangec) (gp d)) (fc (ndiv rangec d) fun s => nhue r g maxc rangec b fun h => k h l s) false)
theorem nrgb2hls_eq {r g b : UInt64} {k : Nat → Nat → Nat → Bool} (h : nrgb2hls r.toNat g.toNat b.toNat k = true) :
    ∃ x y z, rgb2hls r g b = some (x, y, z) ∧ k x.toNat y.toNat z.toNat = true := by
  unfold nrgb2hls at h
  simp only [fc_eq, ← k2, ← k6, nmax_eq, nmin_eq, nsub_eq, nadd0_eq, ndiv_eq, neq_eq, nle_eq] at h
  unfold rgb2hls
  dsimp only
  cases c : feq (fmin (fmin r g) b) (fmax (fmax r g) b) with
  | true =>
    rw [c, cond_true] at h
    exact ⟨0, _, 0, rfl, h⟩
  | false =>
    rw [c, cond_false] at h
    rw [if_neg (by decide)]
    rw [ifb]
    have e : (bif fle (fdiv (fadd (fmax (fmax r g) b) (fmin (fmin r g) b)) 4611686018427387904) 4602678819172646912 then (fadd (fmax (fmax r g) b) (fmin (fmin r g) b)).toNat
      else (fsub (fsub 4611686018427387904 (fmax (fmax r g) b)) (fmin (fmin r g) b)).toNat) = (bif fle (fdiv (fadd (fmax (fmax r g) b) (fmin (fmin r g) b)) 4611686018427387904) 4602678819172646912 then fadd (fmax (fmax r g) b) (fmin (fmin r g) b)
      else fsub (fsub 4611686018427387904 (fmax (fmax r g) b)) (fmin (fmin r g) b)).toNat := by
      cases fle (fdiv (fadd (fmax (fmax r g) b) (fmin (fmin r g) b)) 4611686018427387904) 4602678819172646912 <;> rfl
    rw [e] at h
    rw [ifb, ifb]
    generalize (bif fle (fdiv (fadd (fmax (fmax r g) b) (fmin (fmin r g) b)) 4611686018427387904) 4602678819172646912 then fadd (fmax (fmax r g) b) (fmin (fmin r g) b)
      else fsub (fsub 4611686018427387904 (fmax (fmax r g) b)) (fmin (fmin r g) b)) = d at *
    cases q : (and (gp (fsub (fmax (fmax r g) b) (fmin (fmin r g) b)).toNat) (gp d.toNat)) with
    | false => rw [q, cond_false] at h; cases h
    | true =>
      rw [q, cond_true, ndiv_eq, nhue_eq] at h
      rw [Bool.and_eq_true] at q
      rw [fzero_gp q.1, cond_false, fzero_gp q.2, cond_false]
      exact ⟨_, _, _, rfl, h⟩
noncomputable def nhsv2rgb (h s v : Nat) (k : Nat → Nat → Nat → Bool) : Bool :=
  cond (neq s 0) (k v v v)
  (fc (nmul h 4618441417868443648) fun h6 => ntrunc h6 fun i => cond (Nat.ble i 100) (fc (fI (Int.ofNat i)).toNat fun fi => fc (nsub h6 fi) fun f =>
   fc (nsub 4607182418800017408 s) fun a => fc (nmul v a) fun p =>
   cond (Nat.beq (Nat.mod i 2) 0)
    (fc (nsub 4607182418800017408 f) fun b => fc (nmul s b) fun c => fc (nsub 4607182418800017408 c) fun d => fc (nmul v d) fun t =>
      cond (Nat.beq (Nat.mod i 6) 0) (k v t p) (cond (Nat.beq (Nat.mod i 6) 2) (k p v t) (k t p v)))
    (fc (nmul s f) fun b => fc (nsub 4607182418800017408 b) fun c => fc (nmul v c) fun q =>
      cond (Nat.beq (Nat.mod i 6) 1) (k q v p) (cond (Nat.beq (Nat.mod i 6) 3) (k p q v) (k v p q)))) false)
theorem hsv_in {h s v : UInt64} {i : Int} (c : ¬ feq s 0 = true) (hi : ftrunc (fmul h 4618441417868443648) = some i) (h6 : ¬ 2 ^ 60 ≤ i.natAbs) : hsv2rgb h s v = some (pick6 i v (fmul v (fsub 4607182418800017408 (fmul s (fsub 4607182418800017408 (fsub (fmul h 4618441417868443648) (fI i)))))) (fmul v (fsub 4607182418800017408 s)) (fmul v (fsub 4607182418800017408 (fmul s (fsub (fmul h 4618441417868443648) (fI i)))))) := by
  unfold hsv2rgb
  rw [if_neg c, hi]
  exact if_neg h6
theorem six_of {j : Nat} (h : j < 6) : j = 0 ∨ j = 1 ∨ j = 2 ∨ j = 3 ∨ j = 4 ∨ j = 5 := by (walk_at "my ol")
theorem pick_nat {j : Nat} (h : j < 6) {v t p q : UInt64} {K : UInt64 → UInt64 → UInt64 → Bool} (he : cond (Nat.beq (j % 2) 0) (cond (Nat.beq j 0) (K v t p) (cond (Nat.beq j 2) (K p v t) (K t p v))) (cond (Nat.beq j 1) (K q v p) (cond (Nat.beq j 3) (K p q v) (K v p q))) = true)
    {w : UInt64 × UInt64 × UInt64} (hw : (if (j : Int) = 0 then (v, t, p) else if (j : Int) = 1 then (q, v, p) else if (j : Int) = 2 then (p, v, t) else if (j : Int) = 3 then (p, q, v) else if (j : Int) = 4 then (t, p, v) else (v, p, q)) = w) : K w.1 w.2.1 w.2.2 = true := by
  subst hw
  rcases six_of h with rfl | rfl | rfl | rfl | rfl | rfl <;> exact he
theorem nhsv2rgb_eq {h s v : UInt64} {k : Nat → Nat → Nat → Bool} (he : nhsv2rgb h.toNat s.toNat v.toNat k = true) :
    ∃ x y z, hsv2rgb h s v = some (x, y, z) ∧ k x.toNat y.toNat z.toNat = true := by
  unfold nhsv2rgb at he
  simp only [fc_eq] at he
  rw [show neq s.toNat 0 = feq s 0 from neq_eq s 0] at he
  cases c : feq s 0 with
  | true =>
    rw [c, cond_true] at he
    exact ⟨v, v, v, by unfold hsv2rgb; rw [if_pos c], he⟩
  | false =>
    rw [c, cond_false] at he
    simp only [← k4, nmul_eq] at he
    obtain ⟨i, hi, he⟩ := ntrunc_eq he
    cases d : Nat.ble i 100 with
    | false => rw [d, cond_false] at he; cases he
    | true =>
      rw [d, cond_true] at he
      have hi' := Nat.ble_eq.mp d
      have h60 : ¬ 2 ^ 60 ≤ (i : Int).natAbs := Nat.not_le.mpr (Nat.lt_of_le_of_lt hi' (by decide))
      simp only [← k5, nmul_eq, nsub_eq] at he
      rw [show Nat.mod i 6 = i % 6 from rfl, show Nat.mod i 2 = i % 2 from rfl, ← Nat.mod_mod_of_dvd i (show 2 ∣ 6 by decide)] at he
      exact ⟨_, _, _, hsv_in (by rw [c]; decide) hi h60, pick_nat (K := fun x y z => k x.toNat y.toNat z.toNat) (Nat.mod_lt _ (by decide)) he rfl⟩
end
end
section
noncomputable def toldH (hue share value turns : Int) : Option (Int ⊕ Int) :=
  match hsv2rgb (fadd (fI turns) (fII hue 64)) (fII share 8) (fII value 4) with
  | none => none
  | some (r, g, b) =>
    match rgb2hls r g b with
    | none => none
    | some (around, light, pure) =>
      let level := fadd light (fmul pure (fmin light (fsub (fI 1) light)))
      if feqI pure 0 then
        (if fltI around 0 || fgtI around 1 then none else (fround (fmul level (fI 4))).map .inl)
      else
        if fzero level then none else
        let p := fsub (fI 2) (fdiv (fmul (fI 2) light) level)
        if fltI around 0 || fgtI around 1 then none else
        if feqI p 0 then (fround (fmul level (fI 4))).map .inl else
        match fround (fmul around (fI 64)), fround (fmul p (fI 8)), fround (fmul level (fI 4)) with
        | some a, some b, some c => if b.natAbs < 100 then some (.inr ((a % 64 * 9 + b) * 5 + c)) else none
        | _, _, _ => none
/-- the sign that hls paints and hsv reads -/
noncomputable def toldL (hue share value turns : Int) : Option (Int ⊕ Int) :=
  let twice := value * (16 - share)
  match hls2rgb (fadd (fI turns) (fII hue 64)) (fII twice 64) (fII (share * value) (max 1 (min twice (64 - twice)))) with
  | (r, g, b) =>
    match rgb2hsv r g b with
    | none => none
    | some (around, pure, level) =>
      if fltI around 0 || fgtI around 1 then none else
      if feqI pure 0 then (fround (fmul level (fI 4))).map .inl else
      match fround (fmul around (fI 64)), fround (fmul pure (fI 8)), fround (fmul level (fI 4)) with
      | some a, some b, some c => if b.natAbs < 100 then some (.inr ((a % 64 * 9 + b) * 5 + c)) else none
      | _, _, _ => none
noncomputable def dueN (hue share value : Int) : Int ⊕ Int := if share = 0 then .inl value else .inr ((hue * 9 + share) * 5 + value)
open PySem.Float64 in
section
theorem cmpInt_gp {x : UInt64} (h : gp x.toNat = true) (i : Int) : cmpInt x i = some (compare ((nM x.toNat : Nat) : Int) (i * 2 ^ (1075 - nE x.toNat))) := by
  obtain ⟨h1, h2, h3⟩ := gp_iff.mp h
  unfold cmpInt
  rw [dec_gp h]
  dsimp only
  rw [if_neg (by (walk_at "my ol")), tn75]
  rfl
theorem cmpInt_zero (i : Int) : cmpInt 0 i = some (compare 0 (i * 2 ^ 1074)) := by
  unfold cmpInt
  rw [dec_zero]
  rfl
theorem feqI_zero : feqI 0 0 = true := by unfold feqI; rw [cmpInt_zero, Int.zero_mul]; rfl
theorem nM_pos (x : Nat) : 0 < nM x := by rw [nM_eq]; (walk_at "my ol")
theorem feqI_gp {x : UInt64} (h : gp x.toNat = true) : feqI x 0 = false := by
  unfold feqI
  rw [cmpInt_gp h, Int.zero_mul, Int.compare_eq_gt.mpr (by have := nM_pos x.toNat; (walk_at "my ol"))]
  rfl
theorem fltI_ok {x : UInt64} (h : ok x.toNat = true) : fltI x 0 = false := by
  unfold ok at h
  cases c : Nat.beq x.toNat 0 with
  | true => rw [zero_of c]; unfold fltI; rw [cmpInt_zero, Int.zero_mul]; rfl
  | false =>
    rw [c, Bool.false_or] at h
    unfold fltI
    rw [cmpInt_gp h, Int.zero_mul, Int.compare_eq_gt.mpr (by have := nM_pos x.toNat; (walk_at "my ol"))]
    rfl
theorem fgtI_ok {x : UInt64} (h : ok x.toNat = true) (h1 : x.toNat ≤ 4607182418800017408) : fgtI x 1 = false := by
  unfold ok at h
  cases c : Nat.beq x.toNat 0 with
  | true =>
    rw [zero_of c]; unfold fgtI; rw [cmpInt_zero]
    rw [Int.compare_eq_lt.mpr (by rw [Int.one_mul]; exact Int.pow_pos (by decide))]; rfl
  | false =>
    rw [c, Bool.false_or] at h
    unfold fgtI
    obtain ⟨g1, g2, g3⟩ := gp_iff.mp h
    rw [cmpInt_gp h, Int.one_mul]
    have e := gp_split g3
    have hle : nM x.toNat ≤ 2 ^ (1075 - nE x.toNat) := by
      rw [nM_eq]
      rcases Nat.lt_or_ge (nE x.toNat) 1023 with q | q
      · obtain ⟨k, hk⟩ := Nat.exists_eq_add_of_le (Nat.le_sub_of_add_le (show 53 + nE x.toNat ≤ 1075 from Nat.add_le_add_left (Nat.le_of_lt_succ q) 53))
        rw [hk, Nat.pow_add]
        have : 1 ≤ 2 ^ k := Nat.pow_pos (by decide)
        calc 2 ^ 52 + x.toNat % 2 ^ 52 ≤ 2 ^ 53 * 1 := by (walk_at "my ol")
          _ ≤ _ := Nat.mul_le_mul_left _ this
      · have hE : nE x.toNat = 1023 := by (walk_at "my ol")
        rw [hE] at e ⊢
        (walk_at "my ol")
    have : ((nM x.toNat : Nat) : Int) ≤ 2 ^ (1075 - nE x.toNat) := by exact_mod_cast hle
    rcases Int.lt_or_eq_of_le this with q | q
    · rw [Int.compare_eq_lt.mpr q]; rfl
    · rw [Int.compare_eq_eq.mpr q]; rfl
theorem I1 : (fI 1).toNat = 4607182418800017408 := by decide +kernel
theorem I2 : (fI 2).toNat = 4611686018427387904 := by decide +kernel
theorem I4 : (fI 4).toNat = 4616189618054758400 := by decide +kernel
theorem I8 : (fI 8).toNat = 4620693217682128896 := by decide +kernel
theorem I64 : (fI 64).toNat = 4634204016564240384 := by decide +kernel
end
section
/-- the end of both readings -/
noncomputable def nend (around pure level hue share value : Nat) : Bool :=
  cond (and (ok around) (Nat.ble around 4607182418800017408))
    (cond (Nat.beq pure 0) (and (Nat.beq share 0) (fc (nmul level 4616189618054758400) fun z => nround z fun i => Nat.beq i value))
     (cond (and (gp pure) (Nat.ble 1 share)) (fc (nmul around 4634204016564240384) fun x => nround x fun a => fc (nmul pure 4620693217682128896) fun y => nround y fun b => fc (nmul level 4616189618054758400) fun z => nround z fun c =>
       and (Nat.ble b 99) (Nat.beq (Nat.add (Nat.mul (Nat.add (Nat.mul (Nat.mod a 64) 9) b) 5) c) (Nat.add (Nat.mul (Nat.add (Nat.mul hue 9) share) 5) value))) false)) false
noncomputable def toldT (around p level : UInt64) : Option (Int ⊕ Int) :=
  if fltI around 0 || fgtI around 1 then none else
  if feqI p 0 then (fround (fmul level (fI 4))).map .inl else
  match fround (fmul around (fI 64)), fround (fmul p (fI 8)), fround (fmul level (fI 4)) with
  | some a, some b, some c => if b.natAbs < 100 then some (.inr ((a % 64 * 9 + b) * 5 + c)) else none
  | _, _, _ => none
noncomputable def lev (light p : UInt64) : UInt64 := fadd light (fmul p (fmin light (fsub (fI 1) light)))
noncomputable def toldH1 (around light p : UInt64) : Option (Int ⊕ Int) :=
  if feqI p 0 then (if fltI around 0 || fgtI around 1 then none else (fround (fmul (lev light p) (fI 4))).map .inl)
  else if fzero (lev light p) then none else toldT around (fsub (fI 2) (fdiv (fmul (fI 2) light) (lev light p))) (lev light p)
theorem toldT_1 {around p level : UInt64} {v : Int} (c : (fltI around 0 || fgtI around 1) = false) (d : feqI p 0 = true) (h : fround (fmul level (fI 4)) = some v) : toldT around p level = some (.inl v) := by
  unfold toldT
  rw [c, if_neg (by decide), d, if_pos rfl, h]; rfl
theorem toldT_2 {around p level : UInt64} {x y z : Int} (c : (fltI around 0 || fgtI around 1) = false) (d : feqI p 0 = false) (h1 : fround (fmul around (fI 64)) = some x) (h2 : fround (fmul p (fI 8)) = some y) (h3 : fround (fmul level (fI 4)) = some z) (h4 : y.natAbs < 100) :
    toldT around p level = some (.inr ((x % 64 * 9 + y) * 5 + z)) := by
  unfold toldT
  rw [c, if_neg (by decide), d, if_neg (by decide), h1, h2, h3]
  exact if_pos h4
theorem toldH1_1 {around light p : UInt64} {v : Int} (d : feqI p 0 = true) (c : (fltI around 0 || fgtI around 1) = false) (h : fround (fmul (lev light p) (fI 4)) = some v) : toldH1 around light p = some (.inl v) := by
  unfold toldH1
  rw [d, if_pos rfl, c, if_neg (by decide), h]; rfl
theorem toldH1_2 {around light p : UInt64} (d : feqI p 0 = false) (z : fzero (lev light p) = false) : toldH1 around light p = toldT around (fsub (fI 2) (fdiv (fmul (fI 2) light) (lev light p))) (lev light p) := by
  unfold toldH1
  rw [d, if_neg (by decide), z, if_neg (by decide)]
theorem nend_eq {around pure level : UInt64} {hue share value : Nat} (h : nend around.toNat pure.toNat level.toNat hue share value = true) : toldT around pure level = some (dueN hue share value) := by
  unfold nend at h
  cases c : (and (ok around.toNat) (Nat.ble around.toNat 4607182418800017408)) with
  | false => rw [c, cond_false] at h; cases h
  | true =>
    rw [c, cond_true] at h
    rw [Bool.and_eq_true] at c
    have cc : (fltI around 0 || fgtI around 1) = false := by rw [fltI_ok c.1, fgtI_ok c.1 (Nat.ble_eq.mp c.2)]; rfl
    unfold dueN
    cases d : Nat.beq pure.toNat 0 with
    | true =>
      rw [d, cond_true, Bool.and_eq_true] at h
      obtain ⟨hs, h⟩ := h
      simp only [fc_eq, ← I4, nmul_eq] at h
      obtain ⟨i, hi, h⟩ := nround_eq h
      rw [if_pos (c := (share : Int) = 0) (congrArg (fun n : Nat => (n : Int)) (Nat.beq_eq.mp hs)), ← Nat.beq_eq.mp h]
      exact toldT_1 cc (by rw [zero_of d]; exact feqI_zero) hi
    | false =>
      rw [d, cond_false] at h
      cases e : (and (gp pure.toNat) (Nat.ble 1 share)) with
      | false => rw [e, cond_false] at h; cases h
      | true =>
        rw [e, cond_true] at h
        rw [Bool.and_eq_true] at e
        simp only [fc_eq, ← I4, ← I8, ← I64, nmul_eq] at h
        obtain ⟨a, ha, h⟩ := nround_eq h
        obtain ⟨b, hb, h⟩ := nround_eq h
        obtain ⟨c, hc, h⟩ := nround_eq h
        rw [Bool.and_eq_true] at h
        rw [if_neg (c := (share : Int) = 0) (fun q => by rw [Int.ofNat_eq_zero.mp q] at e; cases e.2)]
        have e5 : (a % 64 * 9 + b) * 5 + c = (hue * 9 + share) * 5 + value := Nat.beq_eq.mp h.2
        have e6 : ((a : Int) % 64 * 9 + b) * 5 + c = ((hue : Int) * 9 + share) * 5 + value := congrArg (fun n : Nat => (n : Int)) e5
        rw [← e6]
        exact toldT_2 cc (feqI_gp e.1) ha hb hc (Nat.lt_of_le_of_lt (Nat.ble_eq.mp h.1) (by decide))
noncomputable def chkL (hue share value turns : Nat) : Bool :=
  fc (fI (Int.ofNat turns)).toNat fun a => fc (fII (Int.ofNat hue) 64).toNat fun b => fc (nadd0 a b) fun H =>
  fc (Nat.mul value (Nat.sub 16 share)) fun twice =>
  fc (fII (Int.ofNat twice) 64).toNat fun l =>
  fc (Nat.mul share value) fun up =>
  fc (cond (Nat.ble twice (Nat.sub 64 twice)) twice (Nat.sub 64 twice)) fun dn => fc (cond (Nat.ble 1 dn) dn 1) fun dn =>
  fc (fII (Int.ofNat up) (Int.ofNat dn)).toNat fun s =>
  nhls2rgb H l s fun r g b => nrgb2hsv r g b fun around pure level => nend around pure level hue share value
theorem chkL_eq {hue share value turns : Nat} (hs : share ≤ 8) (hv : value ≤ 4) (h : chkL hue share value turns = true) : toldL hue share value turns = some (dueN hue share value) := by
  unfold chkL at h
  simp only [fc_eq, nadd0_eq] at h
  have ht : ((Nat.mul value (Nat.sub 16 share) : Nat) : Int) = (value : Int) * (16 - (share : Int)) := by
    simp only [Nat.mul_eq, Nat.sub_eq]
    rw [Int.natCast_mul]; congr 1; (walk_at "my ol")
  have hT : Nat.mul value (Nat.sub 16 share) ≤ 64 := by
    simp only [Nat.mul_eq, Nat.sub_eq]
    calc value * (16 - share) ≤ 4 * 16 := Nat.mul_le_mul hv (by (walk_at "my ol"))
      _ = 64 := rfl
  have hu : ((Nat.mul share value : Nat) : Int) = (share : Int) * (value : Int) := Int.natCast_mul ..
  generalize Nat.mul value (Nat.sub 16 share) = twice at *
  have hd : ((bif Nat.ble 1 (bif twice.ble (Nat.sub 64 twice) then twice else Nat.sub 64 twice) then (bif twice.ble (Nat.sub 64 twice) then twice else Nat.sub 64 twice) else 1 : Nat) : Int) = max 1 (min (twice : Int) (64 - (twice : Int))) := by
    have hb : ∀ a b : Nat, (bif Nat.ble a b then a else b) = min a b := fun a b => by
      cases q : Nat.ble a b with
      | true => exact (Nat.min_eq_left (Nat.ble_eq.mp q)).symm
      | false =>
        have z : ¬ a ≤ b := fun z => by rw [Nat.ble_eq.mpr z] at q; cases q
        exact (Nat.min_eq_right (Nat.le_of_lt (Nat.lt_of_not_le z))).symm
    have hb' : ∀ b : Nat, (bif Nat.ble 1 b then b else 1) = max 1 b := fun b => by
      cases q : Nat.ble 1 b with
      | true => exact (Nat.max_eq_right (Nat.ble_eq.mp q)).symm
      | false =>
        have z : ¬ 1 ≤ b := fun z => by rw [Nat.ble_eq.mpr z] at q; cases q
        exact (Nat.max_eq_left (Nat.le_of_lt (Nat.lt_of_not_le z))).symm
    rw [hb, hb', Nat.sub_eq, cmax, cmin, Int.ofNat_sub hT]
    rfl
  generalize (bif Nat.ble 1 (bif twice.ble (Nat.sub 64 twice) then twice else Nat.sub 64 twice) then (bif twice.ble (Nat.sub 64 twice) then twice else Nat.sub 64 twice) else 1 : Nat) = den at *
  unfold toldL
  dsimp only
  rw [← ht, ← hd, ← hu]
  rw [nhls2rgb_eq] at h
  obtain ⟨x, y, z, h1, h2⟩ := nrgb2hsv_eq h
  simp only [Int.ofNat_eq_natCast] at h1
  rw [h1]
  exact nend_eq h2
noncomputable def chkH (hue share value turns : Nat) : Bool :=
  fc (fI (Int.ofNat turns)).toNat fun a => fc (fII (Int.ofNat hue) 64).toNat fun b => fc (nadd0 a b) fun H =>
  fc (fII (Int.ofNat share) 8).toNat fun s => fc (fII (Int.ofNat value) 4).toNat fun v =>
  nhsv2rgb H s v fun r g b => nrgb2hls r g b fun around light pure =>
  fc (nsub 4607182418800017408 light) fun x => fc (nmin light x) fun y => fc (nmul pure y) fun z => fc (nadd0 light z) fun level =>
  cond (Nat.beq pure 0) (and (and (ok around) (Nat.ble around 4607182418800017408)) (and (Nat.beq share 0) (fc (nmul level 4616189618054758400) fun z => nround z fun i => Nat.beq i value)))
  (cond (and (gp pure) (gp level)) (fc (nmul 4611686018427387904 light) fun m => fc (ndiv m level) fun n => fc (nsub 4611686018427387904 n) fun p => nend around p level hue share value) false)
theorem chkH_eq {hue share value turns : Nat} (h : chkH hue share value turns = true) : toldH hue share value turns = some (dueN hue share value) := by
  unfold chkH at h
  simp only [fc_eq, nadd0_eq] at h
  obtain ⟨x, y, z, h1, h⟩ := nhsv2rgb_eq h
  obtain ⟨around, light, pure, h2, h⟩ := nrgb2hls_eq h
  simp only [Int.ofNat_eq_natCast] at h1
  have k : toldH hue share value turns = toldH1 around light pure := by
    unfold toldH
    rw [h1]
    dsimp only
    rw [h2]
    rfl
  rw [k]
  simp only [← I1, ← I2, ← I4, nsub_eq, nmin_eq, nmul_eq, nadd0_eq, ndiv_eq] at h
  cases d : Nat.beq pure.toNat 0 with
  | true =>
    rw [d, cond_true, Bool.and_eq_true, Bool.and_eq_true, Bool.and_eq_true, I1] at h
    obtain ⟨⟨o1, o2⟩, hs, h⟩ := h
    obtain ⟨i, hi, h⟩ := nround_eq h
    unfold dueN
    rw [if_pos (c := (share : Int) = 0) (congrArg (fun n : Nat => (n : Int)) (Nat.beq_eq.mp hs)), ← Nat.beq_eq.mp h]
    exact toldH1_1 (by rw [zero_of d]; exact feqI_zero) (by rw [fltI_ok o1, fgtI_ok o1 (Nat.ble_eq.mp o2)]; rfl) hi
  | false =>
    rw [d, cond_false] at h
    cases e : (and (gp pure.toNat) (gp (fadd light (fmul pure (fmin light (fsub (fI 1) light)))).toNat)) with
    | false => rw [e, cond_false] at h; cases h
    | true =>
      rw [e, cond_true] at h
      rw [Bool.and_eq_true] at e
      rw [toldH1_2 (feqI_gp e.1) (fzero_gp e.2)]
      exact nend_eq h
end
end
section
section
noncomputable def chkT (hue turns : Nat) : Bool :=
  fc (nadd0 (fI (Int.ofNat turns)).toNat (fII (Int.ofNat hue) 64).toNat) fun H => fc (nmul H 4618441417868443648) fun h6 => ntrunc h6 fun i => cond (Nat.ble i 100) (fc (nsub h6 (fI (Int.ofNat i)).toNat) fun f =>
  fc (nadd0 (fI (Int.ofNat 0)).toNat (fII (Int.ofNat hue) 64).toNat) fun H' => fc (nmul H' 4618441417868443648) fun h6' => ntrunc h6' fun i' => cond (Nat.ble i' 100) (fc (nsub h6' (fI (Int.ofNat i')).toNat) fun f' =>
   and (Nat.beq f f') (Nat.beq (Nat.mod i 6) (Nat.mod i' 6))) false) false
theorem chkT_eq {hue turns : Nat} (h : chkT hue turns = true) (s v : UInt64) : hsv2rgb (fadd (fI turns) (fII hue 64)) s v = hsv2rgb (fadd (fI 0) (fII hue 64)) s v := by
  unfold chkT at h
  simp only [fc_eq, nadd0_eq, ← k4, nmul_eq] at h
  obtain ⟨i, hi, h⟩ := ntrunc_eq h
  cases c : Nat.ble i 100 with
  | false => rw [c, cond_false] at h; cases h
  | true =>
    rw [c, cond_true, nsub_eq] at h
    obtain ⟨i', hi', h⟩ := ntrunc_eq h
    cases c' : Nat.ble i' 100 with
    | false => rw [c', cond_false] at h; cases h
    | true =>
      rw [c', cond_true, nsub_eq, Bool.and_eq_true] at h
      simp only [Int.ofNat_eq_natCast] at hi hi' h
      have hf := UInt64.toNat_inj.mp (Nat.beq_eq.mp h.1)
      have hm : i % 6 = i' % 6 := Nat.beq_eq.mp h.2
      have hm' : (i : Int) % 6 = (i' : Int) % 6 := congrArg (fun n : Nat => (n : Int)) hm
      have c1 : ¬ 2 ^ 60 ≤ (i : Int).natAbs := Nat.not_le.mpr (Nat.lt_of_le_of_lt (Nat.ble_eq.mp c) (by decide))
      have c2 : ¬ 2 ^ 60 ≤ (i' : Int).natAbs := Nat.not_le.mpr (Nat.lt_of_le_of_lt (Nat.ble_eq.mp c') (by decide))
      simp only [Int.natCast_zero] at hi' hf
      by_cases q : feq s 0 = true
      · unfold hsv2rgb; rw [if_pos q, if_pos q]
      · rw [hsv_in q hi c1, hsv_in q hi' c2, hf]
        unfold pick6
        rw [hm']
theorem toldH_turns {hue turns : Nat} (h : chkT hue turns = true) (share value : Int) : toldH hue share value turns = toldH hue share value 0 := by
  unfold toldH
  rw [chkT_eq h]
noncomputable def rowL (s v t : Nat) : Bool := (List.range 64).all fun h => chkL h s v t
noncomputable def rowH (s v : Nat) : Bool := (List.range 64).all fun h => chkH h s v 0
noncomputable def rowT (t : Nat) : Bool := (List.range 64).all fun h => chkT h t
noncomputable def rowHs (s : Nat) : Bool := (List.range 4).all fun v => rowH s (v + 1)
noncomputable def rowLs (s t : Nat) : Bool := (List.range 4).all fun v => rowL s (v + 1) t
theorem T_all : ((List.range 4).all rowT) = true := by decide +kernel
theorem H_0 : rowHs 0 = true := by decide +kernel
theorem H_1 : rowHs 1 = true := by decide +kernel
theorem H_2 : rowHs 2 = true := by decide +kernel
theorem H_3 : rowHs 3 = true := by decide +kernel
theorem H_4 : rowHs 4 = true := by decide +kernel
theorem H_5 : rowHs 5 = true := by decide +kernel
theorem H_6 : rowHs 6 = true := by decide +kernel
theorem H_7 : rowHs 7 = true := by decide +kernel
theorem H_8 : rowHs 8 = true := by decide +kernel
theorem L_0_0 : rowLs 0 0 = true := by decide +kernel
theorem L_0_1 : rowLs 0 1 = true := by decide +kernel
theorem L_0_2 : rowLs 0 2 = true := by decide +kernel
theorem L_0_3 : rowLs 0 3 = true := by decide +kernel
theorem L_1_0 : rowLs 1 0 = true := by decide +kernel
theorem L_1_1 : rowLs 1 1 = true := by decide +kernel
theorem L_1_2 : rowLs 1 2 = true := by decide +kernel
theorem L_1_3 : rowLs 1 3 = true := by decide +kernel
theorem L_2_0 : rowLs 2 0 = true := by decide +kernel
theorem L_2_1 : rowLs 2 1 = true := by decide +kernel
theorem L_2_2 : rowLs 2 2 = true := by decide +kernel
theorem L_2_3 : rowLs 2 3 = true := by decide +kernel
theorem L_3_0 : rowLs 3 0 = true := by decide +kernel
theorem L_3_1 : rowLs 3 1 = true := by decide +kernel
theorem L_3_2 : rowLs 3 2 = true := by decide +kernel
theorem L_3_3 : rowLs 3 3 = true := by decide +kernel
theorem L_4_0 : rowLs 4 0 = true := by decide +kernel
theorem L_4_1 : rowLs 4 1 = true := by decide +kernel
theorem L_4_2 : rowLs 4 2 = true := by decide +kernel
theorem L_4_3 : rowLs 4 3 = true := by decide +kernel
theorem L_5_0 : rowLs 5 0 = true := by decide +kernel
theorem L_5_1 : rowLs 5 1 = true := by decide +kernel
theorem L_5_2 : rowLs 5 2 = true := by decide +kernel
theorem L_5_3 : rowLs 5 3 = true := by decide +kernel
theorem L_6_0 : rowLs 6 0 = true := by decide +kernel
theorem L_6_1 : rowLs 6 1 = true := by decide +kernel
theorem L_6_2 : rowLs 6 2 = true := by decide +kernel
theorem L_6_3 : rowLs 6 3 = true := by decide +kernel
theorem L_7_0 : rowLs 7 0 = true := by decide +kernel
theorem L_7_1 : rowLs 7 1 = true := by decide +kernel
theorem L_7_2 : rowLs 7 2 = true := by decide +kernel
theorem L_7_3 : rowLs 7 3 = true := by decide +kernel
theorem L_8_0 : rowLs 8 0 = true := by decide +kernel
theorem L_8_1 : rowLs 8 1 = true := by decide +kernel
theorem L_8_2 : rowLs 8 2 = true := by decide +kernel
theorem L_8_3 : rowLs 8 3 = true := by decide +kernel
theorem rowT_all (t : Nat) (h : t < 4) : rowT t = true := List.all_eq_true.mp T_all t (List.mem_range.mpr h)
theorem rowHs_all : ∀ s, s < 9 → rowHs s = true
  | 0, _ => H_0 | 1, _ => H_1 | 2, _ => H_2 | 3, _ => H_3 | 4, _ => H_4 | 5, _ => H_5 | 6, _ => H_6 | 7, _ => H_7 | 8, _ => H_8
  | s + 9, h => absurd h (by (walk_at "my ol"))
theorem rowH_all (s v : Nat) (hs : s < 9) (hv : v < 4) : rowH s (v + 1) = true := List.all_eq_true.mp (rowHs_all s hs) v (List.mem_range.mpr hv)
theorem rowLs_all : ∀ s t, s < 9 → t < 4 → rowLs s t = true
  | 0, 0, _, _ => L_0_0 | 0, 1, _, _ => L_0_1 | 0, 2, _, _ => L_0_2 | 0, 3, _, _ => L_0_3
  | 1, 0, _, _ => L_1_0 | 1, 1, _, _ => L_1_1 | 1, 2, _, _ => L_1_2 | 1, 3, _, _ => L_1_3
  | 2, 0, _, _ => L_2_0 | 2, 1, _, _ => L_2_1 | 2, 2, _, _ => L_2_2 | 2, 3, _, _ => L_2_3
  | 3, 0, _, _ => L_3_0 | 3, 1, _, _ => L_3_1 | 3, 2, _, _ => L_3_2 | 3, 3, _, _ => L_3_3
  | 4, 0, _, _ => L_4_0 | 4, 1, _, _ => L_4_1 | 4, 2, _, _ => L_4_2 | 4, 3, _, _ => L_4_3
  | 5, 0, _, _ => L_5_0 | 5, 1, _, _ => L_5_1 | 5, 2, _, _ => L_5_2 | 5, 3, _, _ => L_5_3
  | 6, 0, _, _ => L_6_0 | 6, 1, _, _ => L_6_1 | 6, 2, _, _ => L_6_2 | 6, 3, _, _ => L_6_3
  | 7, 0, _, _ => L_7_0 | 7, 1, _, _ => L_7_1 | 7, 2, _, _ => L_7_2 | 7, 3, _, _ => L_7_3
  | 8, 0, _, _ => L_8_0 | 8, 1, _, _ => L_8_1 | 8, 2, _, _ => L_8_2 | 8, 3, _, _ => L_8_3
  | s + 9, _, h, _ => absurd h (by (walk_at "my ol"))
  | _, t + 4, _, h => absurd h (by (walk_at "my ol"))
theorem rowL_all (s v t : Nat) (hs : s < 9) (hv : v < 4) (ht : t < 4) : rowL s (v + 1) t = true := List.all_eq_true.mp (rowLs_all s t hs ht) v (List.mem_range.mpr hv)
theorem told_due_H {hue share value turns : Int} (h1 : 0 ≤ hue) (h2 : hue < 64) (h3 : 0 ≤ share) (h4 : share < 9) (h5 : 1 ≤ value) (h6 : value ≤ 4) (h7 : 0 ≤ turns) (h8 : turns < 4) :
    toldH hue share value turns = some (dueN hue share value) := by
  obtain ⟨a, rfl⟩ := Int.eq_ofNat_of_zero_le h1
  obtain ⟨b, rfl⟩ := Int.eq_ofNat_of_zero_le h3
  obtain ⟨c, hc⟩ := Int.eq_ofNat_of_zero_le (Int.sub_nonneg.mpr h5)
  obtain rfl : value = ((c + 1 : Nat) : Int) := Int.sub_eq_iff_eq_add.mp hc
  obtain ⟨d, rfl⟩ := Int.eq_ofNat_of_zero_le h7
  have e1 := rowT_all d (by (walk_at "my ol"))
  have e2 := rowH_all b c (by (walk_at "my ol")) (by (walk_at "my ol"))
  unfold rowT at e1
  unfold rowH at e2
  rw [List.all_eq_true] at e1 e2
  rw [toldH_turns (e1 a (List.mem_range.mpr (by (walk_at "my ol"))))]
  exact chkH_eq (turns := 0) (e2 a (List.mem_range.mpr (by (walk_at "my ol"))))
theorem told_due_L {hue share value turns : Int} (h1 : 0 ≤ hue) (h2 : hue < 64) (h3 : 0 ≤ share) (h4 : share < 9) (h5 : 1 ≤ value) (h6 : value ≤ 4) (h7 : 0 ≤ turns) (h8 : turns < 4) :
    toldL hue share value turns = some (dueN hue share value) := by
  obtain ⟨a, rfl⟩ := Int.eq_ofNat_of_zero_le h1
  obtain ⟨b, rfl⟩ := Int.eq_ofNat_of_zero_le h3
  obtain ⟨c, hc⟩ := Int.eq_ofNat_of_zero_le (Int.sub_nonneg.mpr h5)
  obtain rfl : value = ((c + 1 : Nat) : Int) := Int.sub_eq_iff_eq_add.mp hc
  obtain ⟨d, rfl⟩ := Int.eq_ofNat_of_zero_le h7
  have e2 := rowL_all b c d (by (walk_at "my ol")) (by (walk_at "my ol")) (by (walk_at "my ol"))
  unfold rowL at e2
  rw [List.all_eq_true] at e2
  exact chkL_eq (by (walk_at "my ol")) (by (walk_at "my ol")) (e2 a (List.mem_range.mpr (by (walk_at "my ol"))))
end
end
section
section
/-- a value whose lists do not lean on the object d -/
noncomputable def Off (d : Addr) (h : Heap) (pv : PV) (v : Value) : Prop := ∃ hb, Still hb h ∧ (∀ o xs n, hb.get? d = some o → o.data ≠ .seq xs n) ∧ Rep hb pv v
theorem Off.rep {d : Addr} {h : Heap} {pv : PV} {v : Value} (x : Off d h pv v) : Rep h pv v := let ⟨_, a, _, c⟩ := x; Rep.still a _ _ c
theorem Off.still {d : Addr} {h h' : Heap} {pv : PV} {v : Value} (x : Off d h pv v) (k : Still h h') : Off d h' pv v := let ⟨hb, a, b, c⟩ := x; ⟨hb, a.trans k, b, c⟩
/-- d itself may turn -/
theorem Off.turn {d : Addr} {h h' : Heap} {pv : PV} {v : Value} (x : Off d h pv v) (k : Heap.SameBut d h h') : Off d h' pv v := by
  obtain ⟨hb, a, b, c⟩ := x
  refine ⟨hb, fun i o xs n e q => ?_, b, c⟩
  by_cases hi : i = d
  · subst hi; exact absurd q (b o xs n e)
  · exact (k.2 i hi).trans (a i o xs n e q)
noncomputable def Flat : PV → Prop
  | .none => True | .bool _ => True | .int _ => True | .float _ => True | .str _ => True | .obj _ => True | _ => False
theorem Flat.rep {h h' : Heap} {pv : PV} {v : Value} (f : Flat pv) (r : Rep h pv v) : Rep h' pv v := by
  cases pv <;> first | exact False.elim f | (simpa only [Rep] using r)
theorem Flats.reps {h h' : Heap} : ∀ {pvs : List PV} {vs : List Value}, (∀ p ∈ pvs, Flat p) → Reps h pvs vs → Reps h' pvs vs
  | [], _, _, r => by simpa only [Reps] using r
  | p :: pvs, _, k, r => by
    simp only [Reps] at r ⊢
    obtain ⟨v, q, rfl, a, b⟩ := r
    exact ⟨v, q, rfl, (k p List.mem_cons_self).rep a, Flats.reps (fun x hx => k x (List.mem_cons_of_mem _ hx)) b⟩
theorem Off.flat {d : Addr} {h : Heap} {pv : PV} {v : Value} (f : Flat pv) (r : Rep h pv v) : Off d h pv v :=
  ⟨⟨#[], {}⟩, fun b o xs n e _ => by simp [Heap.get?] at e, fun o xs n e => by simp [Heap.get?] at e, f.rep r⟩
/-- a heap where only the object a stands -/
noncomputable def only (a : Addr) (o : Obj) : Heap := ⟨(Array.replicate a { cls := .type "dict", data := .dict #[] }).push o, {}⟩
theorem only_get {a b : Addr} {o o' : Obj} (e : (only a o).get? b = some o') : (b = a ∧ o' = o) ∨ o'.data = .dict #[] := by
  have e' : (only a o).objs[b]? = some o' := by
    unfold Heap.get? at e
    split at e
    · cases e
    · exact e
  unfold only at e'
  dsimp only at e'
  rw [Array.getElem?_push] at e'
  split at e'
  · cases e'; rename_i q; exact .inl ⟨by simpa using q, rfl⟩
  · right
    rw [Array.getElem?_replicate] at e'
    split at e'
    · cases e'; rfl
    · cases e'
theorem only_self {a : Addr} {o : Obj} {xs : Array Value} {n : Nat} (hs : o.data = .seq xs n) : (only a o).get? a = some o := by
  have e : (only a o).objs[a]? = some o := by
    unfold only
    dsimp only
    rw [Array.getElem?_push]
    simp
  unfold Heap.get?
  rw [e]
  split
  · rename_i q; cases q; cases hs
  · rfl
theorem Off.list {d : Addr} {h : Heap} {pvs : List PV} {a : Addr} (f : ∀ p ∈ pvs, Flat p) (hd : a ≠ d) (r : Rep h (.list pvs) (.ref a)) : Off d h (.list pvs) (.ref a) := by
  obtain ⟨a', vs, e, ⟨o, ho, hc, n, hs⟩, rs⟩ := rep_list r
  cases e
  refine ⟨only a o, fun b o' xs n' e q => ?_, fun o' xs n' e => ?_, Rep.mkList ⟨o, only_self hs, hc, n, hs⟩ (Flats.reps f rs)⟩
  · rcases only_get e with ⟨rfl, rfl⟩ | z
    · exact ho
    · rw [z] at q; cases q
  · rcases only_get e with ⟨q, _⟩ | z
    · exact absurd q.symm hd
    · rw [z]; intro q; cases q

noncomputable def Offs (d : Addr) (h : Heap) : List PV → List Value → Prop
  | [], vs => vs = []
  | x :: xs, vs => ∃ v r, vs = v :: r ∧ Off d h x v ∧ Offs d h xs r
theorem Offs.reps {d : Addr} {h : Heap} : ∀ {xs : List PV} {vs : List Value}, Offs d h xs vs → Reps h xs vs
  | [], vs, e => by simpa only [Reps, Offs] using e
  | x :: xs, vs, e => by
    obtain ⟨v, r, rfl, a, b⟩ := e
    simp only [Reps]
    exact ⟨v, r, rfl, a.rep, b.reps⟩
theorem Offs.imp {d : Addr} {h h' : Heap} (k : ∀ pv v, Off d h pv v → Off d h' pv v) : ∀ {xs : List PV} {vs : List Value}, Offs d h xs vs → Offs d h' xs vs
  | [], vs, e => e
  | x :: xs, vs, e => by
    obtain ⟨v, r, rfl, a, b⟩ := e
    exact ⟨v, r, rfl, k _ _ a, b.imp k⟩
theorem Offs.snoc {d : Addr} {h : Heap} {p : PV} {u : Value} (q : Off d h p u) : ∀ {xs : List PV} {vs : List Value}, Offs d h xs vs → Offs d h (xs ++ [p]) (vs ++ [u])
  | [], vs, e => by
    have : vs = [] := e
    subst this
    exact ⟨u, [], rfl, q, rfl⟩
  | x :: xs, vs, e => by
    obtain ⟨v, r, rfl, a, b⟩ := e
    exact ⟨v, r ++ [u], rfl, a, b.snoc q⟩
theorem Offs.length {d : Addr} {h : Heap} {xs : List PV} {vs : List Value} (e : Offs d h xs vs) : vs.length = xs.length := e.reps.length
end
section
variable {w : World} {A : Around} {env : Env}
theorem newEnv_comp {scope : Scope} {cl : List (Str × Addr)} {s : Shared} {E : Value → Shared → Prop} {Q : Env → Shared → Prop}
    (h : Q { scope := scope, locals := s.heap.objs.size, globals := env.globals, cells := cellsFrom (s.heap.objs.size + 1) scope.names cl, qual := env.qual, func := none, code := env.code, frame := env.frame, builtins := env.builtins }
      { s with heap := pushCells (s.heap.push { cls := .type "dict", data := .dict #[] }) scope.names }) :
    wpAny (model PP w) A (newFunctionEnv scope env.globals cl [] env.qual none .none (some env)) Q E s := by
  simp only [newFunctionEnv, Option.isSome_some, if_true]
  refine wpAny_bind (wpAny_alloc ?_)
  refine wpAny_bind (wpAny_layCells _ (fun name kind cells => by cases hkc : kind == NameKind.cell <;> simp [hkc]) _ _ _ _ ?_)
  rw [show ({ s with heap := s.heap.push { cls := .type "dict", data := .dict #[] } } : Shared).heap.objs.size = s.heap.objs.size + 1 from Heap.size_push ..]
  refine wpAny_bind ?_
  rw [List.forIn_nil]
  exact wpAny_pure (wpAny_pure h)

noncomputable def wrs (own : Bool) (C b : Nat) : Prop := b = C ∨ (own = true ∧ b = C + 1)
noncomputable def TS (own : Bool) (C : Addr) (h : Heap) : Prop := (∃ m, h.Ns C m) ∧ (own = true → ∃ v, h.IsCell (C + 1) v)
noncomputable def Tgt (own : Bool) (cenv : Env) (x : Str) : Prop := if own then cenv.kindOf x = some .cell ∧ cenv.cells.lookup x = some (cenv.locals + 1) else cenv.kindOf x = some .local
theorem tgt_store {own : Bool} {cenv : Env} {x : Str} {s : Shared} {v : Value} {E : Value → Shared → Prop} {Q : Unit → Shared → Prop} (hk : Tgt own cenv x) (hf : cenv.scope.kind = .function) (t : TS own cenv.locals s.heap)
    (h : ∀ h' tk, TS own cenv.locals h' → Slot cenv h' x v → Still s.heap h' → (∀ b o, ¬ wrs own cenv.locals b → s.heap.get? b = some o → h'.get? b = some o) → Q () { s with heap := h', toks := tk }) :
    wpAny (model PP w) A (storeName cenv x v) Q E s := by
  obtain ⟨⟨m, hm⟩, tc⟩ := t
  cases own with
  | false =>
    have hk' : cenv.kindOf x = some .local := hk
    refine wpAny_storeName_local hk' hm (fun h' hn' hs' => ?_) (by rw [hf]; rfl)
    exact h h' _ ⟨⟨_, hn'⟩, fun q => by cases q⟩ (.inl ⟨hk', _, hn', if_pos rfl⟩) (Still.sameBut hs' (ns_notSeq hm)) fun b o nb e => hs'.extBut b o (fun q => nb (.inl q)) e
  | true =>
    obtain ⟨hk1, hk2⟩ : cenv.kindOf x = some .cell ∧ cenv.cells.lookup x = some (cenv.locals + 1) := hk
    obtain ⟨v₀, hv₀⟩ := tc rfl
    refine wpAny_storeName_cell hf hk1 hk2 hv₀ (fun h' hv' hs' => ?_)
    exact h h' s.toks ⟨⟨m, hm.sameBut hs' (Nat.ne_of_lt (Nat.lt_succ_self _))⟩, fun _ => ⟨_, hv'⟩⟩ (.inr ⟨.inl hk1, _, hk2, hv'⟩) (Still.sameBut hs' (cell_notSeq hv₀)) fun b o nb e => hs'.extBut b o (fun q => nb (.inr ⟨rfl, q⟩)) e

noncomputable abbrev lstO (ys : List Value) : Obj := { cls := .type "list", data := .seq ys.toArray ys.length }
theorem lstO_snoc (ys : List Value) (y : Value) : ({ cls := .type "list", data := .seq (ys.toArray.push y) (ys.length + 1) } : Obj) = lstO (ys ++ [y]) := by
  show ({ cls := .type "list", data := .seq (ys.toArray.push y) (ys.length + 1) } : Obj) = { cls := .type "list", data := .seq (ys ++ [y]).toArray (ys ++ [y]).length }
  rw [List.length_append, List.length_singleton, List.push_toArray]

noncomputable def TestsTo (w : World) (A : Around) (cenv : Env) (h : Heap) (ifs : List PySem.Expr) (b : Bool) : Prop :=
  Ev w A (forIn ifs true fun c r => if r = true then do let ok ← isTrue c cenv (eval c cenv); pure (ForInStep.yield ok) else pure (ForInStep.yield r)) h fun ok _ => ok = b
theorem Tests.nil {cenv : Env} {h : Heap} : TestsTo w A cenv h [] true := fun s e => wpAny_tests_nil ⟨.refl s, rfl⟩
theorem Tests.one {cenv : Env} {h : Heap} {c : PySem.Expr} {b : Bool} (t : TestTo w A cenv h c b) : TestsTo w A cenv h [c] b := fun s e => wpAny_tests_one (t s e)
noncomputable def collect (sel : Nat → Bool) (out : Nat → PV) (k : Nat) : List PV := (List.range k).filterMap fun i => if sel i then some (out i) else none
theorem collect_succ {sel : Nat → Bool} {out : Nat → PV} {k : Nat} : collect sel out (k + 1) = collect sel out k ++ if sel k then [out k] else [] := by
  unfold collect
  rw [List.range_succ, List.filterMap_append]
  cases h : sel k <;> simp [h]

theorem comp_loop {elt iter : PySem.Expr} {x : Str} {px : Pos} {ifs : List PySem.Expr} {scope : Scope} {pos : Pos} {own : Bool} {s₂ : Shared} {I D C : Addr} {fp : List Addr} {n : Nat} {P : Nat → Value → Prop} {St : Nat → Heap → Prop} {h₁ H3 : Heap} {ce : Env}
    {sel : Nat → Bool} {out : Nat → PV} {RR : Result → Shared → Prop}
    (W : Walks PP w A I fp [I] n P St) (hsz : n ≤ sizeLine) (hI : ∀ i h, St i h → ∀ o xs k, h.get? I = some o → o.data ≠ .seq xs k) (hI1 : h₁.objs.size ≤ I)
    (hl : ce.locals = C) (hf : ce.scope.kind = .function) (htgt : Tgt own ce x)
    (turn : ∀ i, i < n → ∀ v h', P i v → Ext h₁ h' → Slot ce h' x v →
      TestsTo w A ce h' ifs (sel i) ∧ (sel i = true → Ev w A (eval elt ce) h' (fun y h'' => ∀ d o, h'.get? d = some o → Off d h'' (out i) y)))
    (hRR : ∀ h tk m' ys, Ext h₁ h → h.get? D = some (lstO ys) → Offs D h (collect sel out n) ys → h.Ns C m' → RR (.ok .next) { s₂ with heap := h, toks := tk })
    (hDI : @Ne Nat I D) (hCI : @Ne Nat C I) (hCI1 : @Ne Nat (C + 1) I) (hCD : @Ne Nat C D) (hCD1 : @Ne Nat (C + 1) D) (fpD : ∀ b ∈ fp, @LT.lt Nat _ b D) (lt₁ : ∀ b o, h₁.get? b = some o → @LT.lt Nat _ b D)
    (hwI : ¬ wrs own C I) (hwD : ¬ wrs own C D) (wlt : ∀ b, @LT.lt Nat _ b D → ¬ wrs own C b)
    (hst₁ : St 0 H3) (hext₁ : Ext h₁ H3) (hTS : TS own C H3) (hacc : H3.get? D = some (lstO [])) :
    codeAny (model PP w) A (.compLoop (.ListComp elt [⟨.Name x px, iter, ifs, 0⟩] scope pos) 0 (.ref I) (.ref D) ce) RR { s₂ with heap := H3 } := by
  subst hl
  refine codeAny_compLoop_tests
    (fun k s' => ∃ h' tk i ys, s' = { s₂ with heap := h', toks := tk } ∧ i ≤ n ∧ k = n + 1 - i ∧ ys.length ≤ i ∧ St i h' ∧ Ext h₁ h' ∧ TS own ce.locals h' ∧ h'.get? D = some (lstO ys) ∧ Offs D h' (collect sel out i) ys) ?_ (n + 1)
    ⟨H3, _, 0, [], rfl, Nat.zero_le _, rfl, Nat.le_refl _, hst₁, hext₁, hTS, hacc, rfl⟩
  rintro k s' ⟨h', tk, i, ys, rfl, hi, rfl, hR⟩
  refine and6 hR fun hyl hst' ext' ts' hD' offs' => ?_
  clear hR
  by_cases hlt : i < n
  · refine W.item i _ _ _ hlt hst' fun v h₂ tk₂ hPv hst₂ hk₂ => ?_
    have hk₂' : ∀ (b : Nat) o, b ≠ I → h'.get? b = some o → h₂.get? b = some o := fun b o hb e => hk₂ b o (by simpa using hb) e
    have st₂ : Still h' h₂ := fun b o xs m e q => by
      by_cases hb : b = I
      · subst hb; exact absurd q (hI _ _ hst' o xs m e)
      · exact hk₂' b o hb e
    have ext₂ : Ext h₁ h₂ := fun b o e => hk₂' b o (Nat.ne_of_lt (Nat.lt_of_lt_of_le (Heap.lt_size e) hI1)) (ext' b o e)
    have ts₂ : TS own ce.locals h₂ := by
      obtain ⟨⟨m, hm⟩, tc⟩ := ts'
      refine ⟨⟨m, hm.at' fun o e => hk₂' _ o hCI e⟩, fun ho => ?_⟩
      obtain ⟨v₀, o, e, d⟩ := tc ho
      exact ⟨v₀, o, hk₂' _ o hCI1 e, d⟩
    have hD₂ := hk₂' _ _ (Ne.symm hDI) hD'
    refine wpAny_assign_Name (tgt_store htgt hf ts₂ fun h₃ tk₃ ts₃ sl₃ st₃ kp₃ => ?_)
    have kp₃' : ∀ b o, ¬ wrs own ce.locals b → h₂.get? b = some o → h₃.get? b = some o := kp₃
    have ext₃ : Ext h₁ h₃ := fun b o e => kp₃' b o (wlt b (lt₁ b o e)) (ext₂ b o e)
    have hD₃ := kp₃' _ _ hwD hD₂
    have hst₃ : St (i + 1) h₃ := W.frame _ _ _ hst₂ fun b hb o e => kp₃' b o (wlt b (fpD b hb)) e
    obtain ⟨tt, te⟩ := turn i hlt v h₃ hPv ext₃ sl₃
    refine tt.use (.refl _) fun ok s₃ g₃ r₃ => ?_
    subst r₃
    obtain ⟨h₃', tk₃', rfl, x₃⟩ := g₃
    dsimp only at x₃
    cases hsel : sel i with
    | false =>
      simp only [Bool.false_eq_true, if_false]
      refine ⟨n + 1 - (i + 1), Nat.sub_lt_sub_left (Nat.lt_succ_of_lt hlt) (Nat.lt_succ_self i), h₃', tk₃', i + 1, ys, rfl, hlt, rfl, Nat.le_succ_of_le hyl, W.frame _ _ _ hst₃ fun b _ o e => x₃ b o e, ext₃.trans x₃, ?_, x₃ _ _ hD₃, ?_⟩
      · obtain ⟨⟨m, hm⟩, tc⟩ := ts₃
        exact ⟨⟨m, hm.keeps x₃⟩, fun ho => let ⟨v₀, o, e, d⟩ := tc ho; ⟨v₀, o, x₃ _ _ e, d⟩⟩
      · rw [collect_succ, hsel]
        simp only [Bool.false_eq_true, if_false, List.append_nil]
        exact offs'.imp fun _ _ q => ((q.still st₂).still st₃).still x₃.still
    | true =>
      simp only [if_true]
      refine (te hsel).use x₃ fun y s₄ g₄ r₄ => ?_
      obtain ⟨h₄, tk₄, rfl, x₄⟩ := g₄
      dsimp only at x₄ r₄
      have hD₄ := x₄ _ _ (x₃ _ _ hD₃)
      have offy := r₄ D _ hD₃
      refine append_at (hsz := by show ys.toArray.size ≤ sizeLine; rw [List.size_toArray]; (walk_at "my om")) hD₄ fun h₅ hs₅ hD₅ => ?_
      refine ⟨n + 1 - (i + 1), Nat.sub_lt_sub_left (Nat.lt_succ_of_lt hlt) (Nat.lt_succ_self i), h₅, tk₄, i + 1, ys ++ [y], rfl, hlt, rfl, by rw [List.length_append, List.length_singleton]; (walk_at "my om"),
        W.frame _ _ _ hst₃ fun b hb o e => hs₅.extBut b o (Nat.ne_of_lt (fpD b hb)) (x₄ _ _ (x₃ _ _ e)), fun b o e => hs₅.extBut b o (Nat.ne_of_lt (lt₁ b o e)) (x₄ _ _ (x₃ _ _ (ext₃ b o e))), ?_, hD₅.trans (congrArg some (lstO_snoc ys y)), ?_⟩
      · obtain ⟨⟨m, hm⟩, tc⟩ := ts₃
        refine ⟨⟨m, ((hm.keeps x₃).keeps x₄).sameBut hs₅ hCD⟩, fun ho => let ⟨v₀, o, e, d⟩ := tc ho; ⟨v₀, o, hs₅.extBut _ o hCD1 (x₄ _ _ (x₃ _ _ e)), d⟩⟩
      · rw [collect_succ, hsel]
        simp only [if_true]
        exact Offs.imp (fun _ _ q => q.turn hs₅) (Offs.snoc offy (offs'.imp fun _ _ q => (((q.still st₂).still st₃).still x₃.still).still x₄.still))
  · obtain rfl : i = n := Nat.le_antisymm hi (Nat.not_lt.mp hlt)
    refine W.done _ _ _ hst' fun h₂ tk₂ hk₂ => ?_
    have hk₂' : ∀ (b : Nat) o, b ≠ I → h'.get? b = some o → h₂.get? b = some o := fun b o hb e => hk₂ b o (by simpa using hb) e
    have st₂ : Still h' h₂ := fun b o xs m e q => by
      by_cases hb : b = I
      · subst hb; exact absurd q (hI _ _ hst' o xs m e)
      · exact hk₂' b o hb e
    obtain ⟨⟨m, hm⟩, tc⟩ := ts'
    exact hRR h₂ tk₂ m ys (fun b o e => hk₂' b o (Nat.ne_of_lt (Nat.lt_of_lt_of_le (Heap.lt_size e) hI1)) (ext' b o e)) (hk₂' _ _ (Ne.symm hDI) hD') (offs'.imp fun _ _ q => q.still st₂) (hm.at' fun o e => hk₂' _ o hCI e)
theorem comp_core {elt iter : PySem.Expr} {x : Str} {px : Pos} {ifs : List PySem.Expr} {scope : Scope} {cl : List (Str × Addr)} {pos : Pos} {own : Bool} {s₂ : Shared} {I : Addr} {fp : List Addr} {n : Nat} {P : Nat → Value → Prop} {St : Nat → Heap → Prop} {h₁ : Heap}
    {sel : Nat → Bool} {out : Nat → PV} {RR : Value → Addr → Result → Shared → Prop} {E : Value → Shared → Prop}
    (W : Walks PP w A I fp [I] n P St) (hsz : n ≤ sizeLine) (hI : ∀ i h, St i h → ∀ o xs k, h.get? I = some o → o.data ≠ .seq xs k)
    (hst : St 0 s₂.heap) (hfp : ∀ b ∈ fp, b < s₂.heap.objs.size) (h1 : Ext h₁ s₂.heap) (hI1 : h₁.objs.size ≤ I)
    (hkind : scope.kind = .function) (hcf : ∀ k, cellsFrom k scope.names cl = if own then (x, k) :: cl else cl)
    (hpush : ∀ h, pushCells h scope.names = if own then h.push { cls := .type "cell", data := .cell none } else h)
    (htgt : ∀ C, Tgt own (compEnvC scope (if own then (x, C + 1) :: cl else cl) C env) x)
    (turn : ∀ i, i < n → ∀ v C h', P i v → Ext h₁ h' → h₁.objs.size ≤ C → Slot (compEnvC scope (if own then (x, C + 1) :: cl else cl) C env) h' x v →
      TestsTo w A (compEnvC scope (if own then (x, C + 1) :: cl else cl) C env) h' ifs (sel i) ∧
      (sel i = true → Ev w A (eval elt (compEnvC scope (if own then (x, C + 1) :: cl else cl) C env)) h' (fun y h'' => ∀ d o, h'.get? d = some o → Off d h'' (out i) y)))
    (hRR : ∀ D C h tk m' ys, Ext h₁ h → h.get? D = some (lstO ys) → Offs D h (collect sel out n) ys → s₂.heap.objs.size ≤ D → C ≠ D → h.Ns C m' → s₂.heap.objs.size ≤ C → RR (.ref D) C (.ok .next) { s₂ with heap := h, toks := tk }) :
    wpAny (model PP w) A (newList []) (fun acc s₃ => wpAny (model PP w) A (newFunctionEnv scope env.globals cl [] env.qual none .none (some env)) (fun cenv s₄ =>
      codeAny (model PP w) A (.compStart (.ListComp elt [⟨.Name x px, iter, ifs, 0⟩] scope pos) 0 (.ref I) acc { cenv with scope := relabel scope env }) (RR acc cenv.locals) s₄) E s₃) E s₂ := by
  refine wpAny_newObj_type (newEnv_comp ?_)
  dsimp only
  generalize hH2 : s₂.heap.push { cls := .type "list", dict := none, data := .seq ([] : List Value).toArray } = H2
  have hC : H2.objs.size = s₂.heap.objs.size + 1 := by rw [← hH2, Heap.size_push]
  rw [hcf, hpush]
  have hIf : I ∈ fp := W.sub I (List.mem_singleton.mpr rfl)
  have hIlt : @LT.lt Nat _ I s₂.heap.objs.size := hfp I hIf
  have hle1 : h₁.objs.size ≤ s₂.heap.objs.size := Nat.le_trans hI1 (Nat.le_of_lt hIlt)
  generalize hD : s₂.heap.objs.size = D at *
  generalize hCC : H2.objs.size = C at *
  generalize hH3 : (if own = true then (H2.push { cls := .type "dict", data := .dict #[] }).push { cls := .type "cell", data := .cell none } else H2.push { cls := .type "dict", data := .dict #[] }) = H3
  have up3 : ∀ b o, (H2.push { cls := .type "dict", data := .dict #[] }).get? b = some o → H3.get? b = some o := fun b o e => by
    rw [← hH3]; split
    · exact Heap.get?_push_of_some _ e
    · exact e
  have old : Ext s₂.heap H3 := fun b o e => up3 b o (Heap.get?_push_of_some _ (hH2 ▸ Heap.get?_push_of_some _ e))
  have hacc : H3.get? D = some (lstO []) := up3 _ _ (Heap.get?_push_of_some _ (hH2 ▸ hD ▸ Heap.get?_push_size _ rfl))
  have hTS : TS own C H3 := by
    refine ⟨⟨_, Heap.Ns.keeps (hCC ▸ Heap.Ns.new H2 (.type "dict")) up3⟩, fun ho => ?_⟩
    refine ⟨none, { cls := .type "cell", data := .cell none }, ?_, rfl⟩
    rw [← hH3, if_pos ho, show C + 1 = (H2.push { cls := .type "dict", data := .dict #[] }).objs.size by rw [Heap.size_push, hCC]]
    exact Heap.get?_push_size _ rfl
  have hst₁ : St 0 H3 := W.frame _ _ _ hst fun b _ o e => old b o e
  have hext₁ : Ext h₁ H3 := h1.trans old
  have hDI : @Ne Nat I D := Nat.ne_of_lt hIlt
  have fpD : ∀ b ∈ fp, @LT.lt Nat _ b D := fun b hb => hfp b hb
  have lt₁ : ∀ b o, h₁.get? b = some o → @LT.lt Nat _ b D := fun b o e => Nat.lt_of_lt_of_le (Heap.lt_size e) hle1
  have hwI : ¬ wrs own C I := fun q => by rcases q with q | ⟨_, q⟩ <;> (walk_at "my om")
  have hwD : ¬ wrs own C D := fun q => by rcases q with q | ⟨_, q⟩ <;> (walk_at "my om")
  have wlt : ∀ b, @LT.lt Nat _ b D → ¬ wrs own C b := fun b hb q => by rcases q with q | ⟨_, q⟩ <;> (walk_at "my om")
  have loop := comp_loop (elt := elt) (iter := iter) (px := px) (ifs := ifs) (scope := scope) (pos := pos) (s₂ := s₂) (H3 := H3) (sel := sel) (out := out) (RR := RR (.ref D) C) (ce := compEnvC scope (if own then (x, C + 1) :: cl else cl) C env) W hsz hI hI1 rfl (by simp [compEnvC, relabel, hkind]) (htgt C)
    (fun i hi v h' hP e sl => turn i hi v C h' hP e (by (walk_at "my om")) sl) (fun h tk m' ys e1 e2 e3 e4 => hRR D C h tk m' ys e1 e2 e3 (show @LE.le Nat _ D D from Nat.le_refl _) (show @Ne Nat C D by (walk_at "my om")) e4 (show @LE.le Nat _ D C by (walk_at "my om")))
    hDI (show @Ne Nat C I by (walk_at "my om")) (show @Ne Nat (C + 1) I by (walk_at "my om")) (show @Ne Nat C D by (walk_at "my om")) (show @Ne Nat (C + 1) D by (walk_at "my om")) fpD lt₁ hwI hwD wlt hst₁ hext₁ hTS hacc
  exact codeAny_compStart_list loop (W.self 0 _ _ _ hst₁ loop)
end
end
section
section
variable {w : World} {A : Around} {env : Env}
/-- what a comprehension or a loop walks: a list or a range from 0 -/
noncomputable def Src (h : Heap) (items : List PV) (v : Value) : Prop := Rep h (.list items) v ∨
  ∃ (r : Addr) (k : Nat) (t u z : Tok), v = .ref r ∧ IsRange h r 0 (k : Int) 1 t u z ∧ k < 2 ^ 30 ∧ items = (List.range k).map fun (i : Nat) => PV.int (i : Int)
theorem src_range_small {k : Nat} (hk : k < 2 ^ 30) : Builtin.Range.small 0 (k : Int) 1 = true ∧ Builtin.Range.rangeSize 0 (k : Int) 1 = (k : Int) := by
  have h1 : Builtin.Range.rangeSize 0 (k : Int) 1 = (k : Int) := by
    unfold Builtin.Range.rangeSize
    simp
    intro q; rw [q]; rfl
  refine ⟨?_, h1⟩
  have fits : ∀ i : Int, 0 ≤ i → i < 2 ^ 30 → Builtin.Range.rangeFitsLong i = true := fun i a b => by
    unfold Builtin.Range.rangeFitsLong
    simp; (walk_at "my om")
  unfold Builtin.Range.small
  rw [h1]
  simp [fits 0 (by (walk_at "my om")) (by (walk_at "my om")), fits k (by (walk_at "my om")) (by (walk_at "my om")), fits 1 (by (walk_at "my om")) (by (walk_at "my om"))]
theorem comp_go {elt iter : PySem.Expr} {x : Str} {px : Pos} {ifs : List PySem.Expr} {scope : Scope} {cl : List (Str × Addr)} {pos : Pos} {own : Bool} {s₁ : Shared} {items : List PV} {v : Value}
    {sel : Nat → Bool} {out : Nat → PV} {RR : Value → Addr → Result → Shared → Prop} {E : Value → Shared → Prop}
    (hA : A.handled = none) (src : Src s₁.heap items v) (hsz : items.length ≤ sizeLine)
    (hkind : scope.kind = .function) (hcf : ∀ k, cellsFrom k scope.names cl = if own then (x, k) :: cl else cl)
    (hpush : ∀ h, pushCells h scope.names = if own then h.push { cls := .type "cell", data := .cell none } else h)
    (htgt : ∀ C, Tgt own (compEnvC scope (if own then (x, C + 1) :: cl else cl) C env) x)
    (turn : ∀ i it, items[i]? = some it → ∀ u C h', Rep h' it u → Ext s₁.heap h' → Slot (compEnvC scope (if own then (x, C + 1) :: cl else cl) C env) h' x u →
      TestsTo w A (compEnvC scope (if own then (x, C + 1) :: cl else cl) C env) h' ifs (sel i) ∧
      (sel i = true → Ev w A (eval elt (compEnvC scope (if own then (x, C + 1) :: cl else cl) C env)) h' (fun y h'' => ∀ d o, h'.get? d = some o → Off d h'' (out i) y)))
    (hRR : ∀ D C h tk m' ys s₂, Grows s₁ s₂ → Ext s₁.heap h → h.get? D = some (lstO ys) → Offs D h (collect sel out items.length) ys → s₁.heap.get? D = none → C ≠ D → h.Ns C m' → s₁.heap.get? C = none → RR (.ref D) C (.ok .next) { s₂ with heap := h, toks := tk }) :
    wpAny (model PP w) A (pyIter v) (fun it s₂ => wpAny (model PP w) A (newList []) (fun acc s₃ => wpAny (model PP w) A (newFunctionEnv scope env.globals cl [] env.qual none .none (some env)) (fun cenv s₄ =>
      codeAny (model PP w) A (.compStart (.ListComp elt [⟨.Name x px, iter, ifs, 0⟩] scope pos) 0 it acc { cenv with scope := relabel scope env }) (RR acc cenv.locals) s₄) E s₃) E s₂) E s₁ := by
  have none_of : ∀ b, @LE.le Nat _ s₁.heap.objs.size b → s₁.heap.get? b = none := fun b hb => by
    cases e : s₁.heap.get? b with
    | none => rfl
    | some o => exact absurd (Heap.lt_size e) (Nat.not_lt.mpr hb)
  rcases src with r | ⟨r, k, t, u, z, rfl, hr, hk, rfl⟩
  · obtain ⟨ax, vs, rfl, hl, rs⟩ := rep_list r
    have hlt : @LT.lt Nat _ ax s₁.heap.objs.size := by obtain ⟨_, e, _⟩ := hl; exact Heap.lt_size e
    refine wpAny_pyIter_list hl ?_
    have hlen : vs.toArray.size = items.length := by rw [List.size_toArray, rs.length]
    have W := Walks.list (prog := PP) (w := w) hA s₁.heap.objs.size ax (Nat.ne_of_lt hlt) vs.toArray
    rw [hlen] at W
    have hsize : (s₁.heap.push { cls := .type "list_iterator", data := .fields #[.ref ax, .int 0 0] }).objs.size = s₁.heap.objs.size + 1 := Heap.size_push ..
    refine comp_core (sel := sel) (out := out) (h₁ := s₁.heap) W hsz (fun i h st o xs n e q => ?_) ⟨⟨_, Heap.get?_push_size _ rfl, rfl, rfl⟩, hl.push _⟩ (fun b hb => ?_) (fun b o e => Heap.get?_push_of_some _ e) (Nat.le_refl _) hkind hcf hpush htgt
      (fun i hi v' C h' hP e hC sl => ?_) fun D C h tk m' ys e hD off hDs hCD hn hCs => ?_
    · obtain ⟨o', e', _, d'⟩ := st.1
      rw [e] at e'; cases e'; rw [q] at d'; cases d'
    · show @LT.lt Nat _ b (s₁.heap.push _).objs.size
      rw [hsize]
      rcases List.mem_cons.mp hb with rfl | hb
      · exact Nat.lt_succ_self _
      · rw [List.mem_singleton.mp hb]; exact Nat.lt_succ_of_lt hlt
    · obtain ⟨it, hit⟩ : ∃ it, items[i]? = some it := ⟨items[i], List.getElem?_eq_getElem hi⟩
      obtain ⟨u, hu, ru⟩ := rs.get i it hit
      have : v' = u := by
        rw [List.getElem?_toArray] at hP
        rw [hP] at hu; exact Option.some.inj hu
      subst this
      exact turn i it hit v' C h' (Rep.mono e _ _ ru) e sl
    · refine hRR D C h tk m' ys { s₁ with heap := s₁.heap.push { cls := .type "list_iterator", data := .fields #[.ref ax, .int 0 0] } } (Grows.heap' (Ext.push _ _)) e hD off (none_of D ?_) hCD hn (none_of C ?_)
      · have : s₁.heap.objs.size + 1 ≤ D := hsize ▸ hDs
        exact Nat.le_of_succ_le this
      · have : s₁.heap.objs.size + 1 ≤ C := hsize ▸ hCs
        exact Nat.le_of_succ_le this
  · obtain ⟨hsm, hrs⟩ := src_range_small hk
    refine wpAny_pyIter_range hr hsm ?_
    rw [hrs]
    have W := PyProof.Rows.LCg.range_walks (prog := PP) (w := w) (I := s₁.heap.objs.size) hA 0 k
    have hlen : ((List.range k).map fun (i : Nat) => PV.int (i : Int)).length = k := by simp
    have hsize : (s₁.heap.push { cls := .type "range_iterator", data := .fields #[rawInt 0, rawInt (k : Int), rawInt 1] }).objs.size = s₁.heap.objs.size + 1 := Heap.size_push ..
    refine comp_core (sel := sel) (out := out) (h₁ := s₁.heap) (n := k) W (hlen ▸ hsz) (fun i h st o xs n e q => ?_) (by show IsRangeIter _ _ _ _ _; simpa using Heap.get?_push_size _ rfl) (fun b hb => ?_) (fun b o e => Heap.get?_push_of_some _ e) (Nat.le_refl _) hkind hcf hpush htgt
      (fun i hi v' C h' hP e hC sl => ?_) fun D C h tk m' ys e hD off hDs hCD hn hCs => ?_
    · have st' : h.get? s₁.heap.objs.size = some _ := st
      rw [e] at st'; cases st'; cases q
    · rw [List.mem_singleton.mp hb]
      show @LT.lt Nat _ s₁.heap.objs.size (s₁.heap.push _).objs.size
      rw [hsize]; exact Nat.lt_succ_self _
    · obtain ⟨t', rfl⟩ := hP
      refine turn i (.int (i : Int)) (by simp [List.getElem?_range hi]) _ C h' ?_ e sl
      rw [Int.zero_add]; exact .mkInt _ _
    · rw [hlen] at hRR
      refine hRR D C h tk m' ys { s₁ with heap := s₁.heap.push { cls := .type "range_iterator", data := .fields #[rawInt 0, rawInt (k : Int), rawInt 1] } } (Grows.heap' (Ext.push _ _)) e hD off (none_of D ?_) hCD hn (none_of C ?_)
      · have : s₁.heap.objs.size + 1 ≤ D := hsize ▸ hDs
        exact Nat.le_of_succ_le this
      · have : s₁.heap.objs.size + 1 ≤ C := hsize ▸ hCs
        exact Nat.le_of_succ_le this

/-- the names of the frame around that the comprehension sees -/
inductive Carries (env : Env) (scope : Scope) (x : Str) (cl : List (Str × Addr)) (ρ : List (Str × PV)) : List (Str × PV) → Prop
  | nil : Carries env scope x cl ρ []
  | cons {y : Str} {pv : PV} {c : Addr} {rest : List (Str × PV)} : (y == x) = false → ρ.lookup y = some pv → env.cells.lookup y = some c → cl.lookup y = some c →
      (env.kindOf y = some .cell ∨ env.kindOf y = some .free) → ((relabel scope env).names.lookup y = some .cell ∨ (relabel scope env).names.lookup y = some .free) → Carries env scope x cl ρ rest → Carries env scope x cl ρ ((y, pv) :: rest)
theorem Carries.get {scope : Scope} {x : Str} {cl : List (Str × Addr)} {ρ ρ' : List (Str × PV)} (k : Carries env scope x cl ρ ρ') : ∀ y pv, ρ'.lookup y = some pv →
    (y == x) = false ∧ ρ.lookup y = some pv ∧ ∃ c, env.cells.lookup y = some c ∧ cl.lookup y = some c ∧ (env.kindOf y = some .cell ∨ env.kindOf y = some .free) ∧ ((relabel scope env).names.lookup y = some .cell ∨ (relabel scope env).names.lookup y = some .free) := by
  induction k with
  | nil => intro y pv e; cases e
  | cons h1 h2 h3 h4 h5 h6 _ ih =>
    rename_i z p c rest k'
    intro y pv e
    rw [List.lookup_cons] at e
    cases q : y == z with
    | true =>
      rw [q] at e
      have : y = z := by simpa using q
      subst this
      cases e
      exact ⟨h1, h2, c, h3, h4, h5, h6⟩
    | false => rw [q] at e; exact ih y pv e
theorem Sit.comp {n : Nat} {ρ ρ' : List (Str × PV)} {h h' : Heap} {scope : Scope} {x : Str} {cl : List (Str × Addr)} {own : Bool} {C : Addr} {it : PV} {u : Value} (S : Sit w A env n ρ h) (hkind : scope.kind = .function)
    (k : Carries env scope x cl ρ ρ') (e : Ext h h') (ru : Rep h' it u) (sl : Slot (compEnvC scope (if own then (x, C + 1) :: cl else cl) C env) h' x u) :
    Sit w A (compEnvC scope (if own then (x, C + 1) :: cl else cl) C env) n ((x, it) :: ρ') h' :=
  ⟨S.glo.mono e, S.rm, S.hn, hkind, S.eg, S.eb, fun y pv q => by
    rw [List.lookup_cons] at q
    cases hy : y == x with
    | true =>
      rw [hy] at q
      have : y = x := by simpa using hy
      subst this
      cases q
      exact ⟨u, ru, sl⟩
    | false =>
      rw [hy] at q
      obtain ⟨_, h2, c, h3, h4, h5, h6⟩ := k.get y pv q
      obtain ⟨v, rv, sv⟩ := S.look y pv h2
      refine ⟨v, Rep.mono e _ _ rv, .inr ⟨h6, c, ?_, ?_⟩⟩
      · show (if own = true then (x, C + 1) :: cl else cl).lookup y = some c
        cases own with
        | false => exact h4
        | true => 
          simp only [if_true]
          rw [List.lookup_cons, hy]; exact h4
      · rcases sv with ⟨q1, _⟩ | ⟨_, c', hc', cc⟩
        · rcases h5 with z | z <;> rw [z] at q1 <;> cases q1
        · rw [h3] at hc'; cases hc'; exact cc.keeps e⟩

noncomputable def IterTo (w : World) (A : Around) (env : Env) (h : Heap) (e : PySem.Expr) (items : List PV) : Prop := Ev w A (eval e env) h fun v h' => Src h' items v
theorem IterTo.list {h : Heap} {e : PySem.Expr} {items : List PV} (x : EvalsTo w A env h e (.list items)) : IterTo w A env h e items := Ev.imp x fun _ _ _ r => .inl r
noncomputable def EltTo (w : World) (A : Around) (env : Env) (h : Heap) (e : PySem.Expr) (p : PV) : Prop := Ev w A (eval e env) h fun y h'' => ∀ d o, h.get? d = some o → Off d h'' p y
theorem EltTo.flat {h : Heap} {e : PySem.Expr} {p : PV} (f : Flat p) (x : EvalsTo w A env h e p) : EltTo w A env h e p := Ev.imp x fun _ _ _ r _ _ _ => .flat f r
theorem rep_fresh' {hb h : Heap} {p : PV} {v : Value} (r : Rep h (.fresh hb p) v) : (∃ a items n, v = .ref a ∧ hb.get? a = none ∧ h.get? a = some { cls := .type "list", data := .seq items n }) ∧ Rep h p v := by simpa only [Rep] using r
theorem rep_fresh {hb h : Heap} {p : PV} {v : Value} (r : Rep h (.fresh hb p) v) : (∃ a, v = .ref a ∧ hb.get? a = none) ∧ Rep h p v := let ⟨⟨a, _, _, e1, e2, _⟩, e4⟩ := rep_fresh' r; ⟨⟨a, e1, e2⟩, e4⟩
theorem EltTo.list {h : Heap} {e : PySem.Expr} {ps : List PV} (f : ∀ p ∈ ps, Flat p) (x : EvalsTo w A env h e (.fresh h (.list ps))) : EltTo w A env h e (.list ps) := Ev.imp x fun _ _ _ r d o hd => by
  obtain ⟨⟨a, rfl, ha⟩, r'⟩ := rep_fresh r
  exact .list f (fun q => by subst q; rw [hd] at ha; cases ha) r'
theorem E_unfresh {hb h : Heap} {e : PySem.Expr} {p : PV} (x : EvalsTo w A env h e (.fresh hb p)) : EvalsTo w A env h e p := Ev.imp x fun _ _ _ r => (rep_fresh r).2

theorem collect_map {α : Type} (q : α → Bool) (f : α → PV) (ns : List α) (sel : Nat → Bool) (out : Nat → PV) (k : ∀ i a, ns[i]? = some a → sel i = q a ∧ out i = f a) : collect sel out ns.length = (ns.filter q).map f := by
  have main : ∀ m, m ≤ ns.length → collect sel out m = ((ns.take m).filter q).map f := by
    intro m
    induction m with
    | zero => intro _; rfl
    | succ m ih =>
      intro hm
      obtain ⟨a, ha⟩ : ∃ a, ns[m]? = some a := ⟨ns[m], List.getElem?_eq_getElem hm⟩
      obtain ⟨k1, k2⟩ := k m a ha
      rw [collect_succ, ih (Nat.le_of_succ_le hm), List.take_add_one, ha, k1, k2, List.filter_append, List.map_append]
      cases hq : q a <;> simp [hq]
  rw [main _ (Nat.le_refl _), List.take_length]
end
end
section
section
variable {w : World} {A : Around} {env : Env}
noncomputable def selOf {α : Type} (ns : List α) (q : α → Bool) (i : Nat) : Bool := match ns[i]? with | some a => q a | none => false
noncomputable def outOf {α : Type} (ns : List α) (f : α → PV) (i : Nat) : PV := match ns[i]? with | some a => f a | none => .none
theorem collect_of {α : Type} (ns : List α) (q : α → Bool) (f : α → PV) : collect (selOf ns q) (outOf ns f) ns.length = (ns.filter q).map f :=
  collect_map q f ns _ _ fun i a e => by unfold selOf outOf; rw [e]; exact ⟨rfl, rfl⟩
theorem none_back {h h' : Heap} {a : Addr} (k : Ext h h') (e : h'.get? a = none) : h.get? a = none := by
  cases q : h.get? a with
  | none => rfl
  | some o => rw [k a o q] at e; cases e
section
variable {n : Nat} {h₀ h : Heap} {ρ ρ' : List (Str × PV)} {elt iter : PySem.Expr} {x : Str} {px : Pos} {ifs : List PySem.Expr} {scope : Scope} {cl : List (Str × Addr)} {pos : Pos} {own : Bool} {α : Type}
  {ns : List α} {P : α → PV} {q : α → Bool} {f : α → PV}
/-- the turn of a comprehension, in the words of comp_go -/
theorem turn_of (S : Sit w A env n ρ h) (hkind : scope.kind = .function) (k : Carries env scope x cl ρ ρ')
    (turn : ∀ a ∈ ns, ∀ C h', Ext h h' → Sit w A (compEnvC scope (if own then (x, C + 1) :: cl else cl) C env) n ((x, P a) :: ρ') h' →
      TestsTo w A (compEnvC scope (if own then (x, C + 1) :: cl else cl) C env) h' ifs (q a) ∧ (q a = true → EltTo w A (compEnvC scope (if own then (x, C + 1) :: cl else cl) C env) h' elt (f a)))
    {g : Heap} (e : Ext h g) : ∀ i it, (ns.map P)[i]? = some it → ∀ u C h', Rep h' it u → Ext g h' → Slot (compEnvC scope (if own then (x, C + 1) :: cl else cl) C env) h' x u →
      TestsTo w A (compEnvC scope (if own then (x, C + 1) :: cl else cl) C env) h' ifs (selOf ns q i) ∧
      (selOf ns q i = true → Ev w A (eval elt (compEnvC scope (if own then (x, C + 1) :: cl else cl) C env)) h' (fun y h'' => ∀ d o, h'.get? d = some o → Off d h'' (outOf ns f i) y)) := by
  intro i it hit u C h' ru e' sl
  rw [List.getElem?_map] at hit
  cases ha : ns[i]? with
  | none => rw [ha] at hit; cases hit
  | some a =>
    rw [ha] at hit
    cases hit
    have := turn a (List.mem_of_getElem? ha) C h' (e.trans e') (S.comp hkind k (e.trans e') ru sl)
    unfold selOf outOf
    rw [ha]
    exact this
theorem E_Comp (S : Sit w A env n ρ h) (hclos : closureFor scope env = pure cl) (k : Carries env scope x cl ρ ρ') (hit : IterTo w A env h iter (ns.map P)) (hlen : ns.length ≤ sizeLine)
    (hkind : scope.kind = .function) (hnames : (scope.names.all fun y => y.2 != .local || scope.names.lookup y.1 == some .local) = true)
    (hcf : ∀ k, cellsFrom k scope.names cl = if own then (x, k) :: cl else cl)
    (hpush : ∀ h, pushCells h scope.names = if own then h.push { cls := .type "cell", data := .cell none } else h)
    (htgt : ∀ C, Tgt own (compEnvC scope (if own then (x, C + 1) :: cl else cl) C env) x) (hs : ∀ x, foldedSetIterable iter env x = pure x)
    (turn : ∀ a ∈ ns, ∀ C h', Ext h h' → Sit w A (compEnvC scope (if own then (x, C + 1) :: cl else cl) C env) n ((x, P a) :: ρ') h' →
      TestsTo w A (compEnvC scope (if own then (x, C + 1) :: cl else cl) C env) h' ifs (q a) ∧ (q a = true → EltTo w A (compEnvC scope (if own then (x, C + 1) :: cl else cl) C env) h' elt (f a))) :
    EvalsTo w A env h (.ListComp elt [⟨.Name x px, iter, ifs, 0⟩] scope pos) (.fresh h (.list ((ns.filter q).map f))) := by
  intro s e
  rw [eval_ListComp]
  have hnames' : ∀ y ∈ scope.names, y.2 = .local → scope.names.lookup y.1 = some .local := fun y hy hl => by
    have := List.all_eq_true.mp hnames y hy
    rw [hl] at this
    simpa using this
  refine wpAny_comprehension_free (use := none) rfl hs hclos hkind hnames' (hit.use e fun v s₁ g₁ src => ?_)
  refine comp_go (own := own) (sel := selOf ns q) (out := outOf ns f) S.rm.h src (by rw [List.length_map]; exact hlen) hkind hcf hpush htgt (turn_of S hkind k turn (e.trans g₁.ext)) fun D C h' tk m' ys s₂ g e' hD off hd hCD hn hC => ?_
  rw [List.length_map, collect_of] at off
  refine ⟨m', hn, fun h'' hs'' => ?_⟩
  have st := Still.sameBut hs'' (ns_notSeq hn)
  have ext : Ext s₁.heap h'' := fun b o q => hs''.extBut b o (fun z => by subst z; rw [hC] at q; cases q) (e' b o q)
  obtain ⟨hh, tk₂, rfl, _⟩ := g
  refine ⟨g₁.trans ⟨h'', tk, rfl, ext⟩, ?_⟩
  simp only [Rep]
  refine ⟨⟨D, _, _, rfl, none_back (e.trans g₁.ext) hd, hs''.extBut D _ (Ne.symm hCD) hD⟩, D, ys, rfl, ⟨lstO ys, hs''.extBut D _ (Ne.symm hCD) hD, rfl, _, rfl⟩, Reps.still st _ _ off.reps⟩

theorem Frm.other {h h' : Heap} {C : Addr} (F : Frm w A env n h₀ ρ h) (k : Heap.SameBut C h h') (hC₀ : h₀.get? C = none) (hL : env.locals ≠ C) (hc : ∀ y c, env.cells.lookup y = some c → c ≠ C)
    (hn : ∀ o xs n, h.get? C = some o → o.data ≠ .seq xs n) : Frm w A env n h₀ ρ h' :=
  have st := Still.sameBut k hn
  { F with
    ext := fun b o e => k.extBut b o (fun z => by subst z; rw [hC₀] at e; cases e) (F.ext b o e)
    ns := let ⟨m, a⟩ := F.ns; ⟨m, a.sameBut k hL⟩
    cells := fun y c e => let ⟨a, v, b⟩ := F.cells y c e; ⟨a, v, b.sameBut k (hc y c e)⟩
    look := fun y pv e => by
      obtain ⟨v, a, b⟩ := F.look y pv e
      refine ⟨v, Rep.still st _ _ a, ?_⟩
      rcases b with ⟨k1, m', hm', hv⟩ | ⟨k1, d, hd, hv⟩
      · exact .inl ⟨k1, m', hm'.sameBut k hL, hv⟩
      · exact .inr ⟨k1, d, hd, hv.sameBut k (hc y d hd)⟩ }
theorem Frm.storeL {s : Shared} {x : Str} {v : Value} {pv : PV} {E : Value → Shared → Prop} {Q : Unit → Shared → Prop} (F : Frm w A env n h₀ ρ s.heap) (r : Rep s.heap pv v)
    (hl : env.kindOf x = some .local)
    (h : ∀ h' tk, Frm w A env n h₀ ((x, pv) :: ρ) h' → Heap.SameBut env.locals s.heap h' → Q () { s with heap := h', toks := tk }) {A' : Around} : wpAny (model PP w) A' (storeName env x v) Q E s := by
  obtain ⟨m, hm⟩ := F.ns
  refine wpAny_storeName_local hl hm (fun h' hn' hs' => ?_) (by rw [F.fn]; rfl)
  have st := Still.sameBut hs' (ns_notSeq hm)
  have keep : Ext h₀ h' := fun b o e => hs'.extBut b o (Nat.ne_of_lt (Nat.lt_of_lt_of_le (Heap.lt_size e) F.above)) (F.ext b o e)
  refine h h' _ { F with ext := keep, ns := ⟨_, hn'⟩, cells := fun y c e => ?_, look := fun y pv' e => ?_ } hs'
  · obtain ⟨a, u, b⟩ := F.cells y c e
    exact ⟨a, u, b.sameBut hs' (ns_cell_ne hm b)⟩
  · by_cases hy : y = x
    · subst hy
      rw [lookup_cons_eq] at e
      cases e
      exact ⟨v, Rep.still st _ _ r, .inl ⟨hl, _, hn', if_pos rfl⟩⟩
    · rw [lookup_cons_ne hy] at e
      obtain ⟨u, a, b⟩ := F.look y pv' e
      refine ⟨u, Rep.still st _ _ a, ?_⟩
      rcases b with ⟨k, m', hm', hv⟩ | ⟨k, c, hc, hv⟩
      · rw [ns_unique hm' hm] at hv
        exact .inl ⟨k, _, hn', by rw [if_neg hy]; exact hv⟩
      · exact .inr ⟨k, c, hc, hv.sameBut hs' (ns_cell_ne hm hv)⟩

theorem step_comp {s : Shared} {y : Str} {py spos : Pos} {E : Value → Shared → Prop} {Q : Flow → Shared → Prop} (F : Frm w A env n h₀ ρ s.heap)
    (hsw : swapsWith (.ListComp elt [⟨.Name x px, iter, ifs, 0⟩] scope pos) (some (.Name y py)) spos.line env = pure true) (hy : env.kindOf y = some .local)
    (hclos : closureFor scope env = pure cl) (k : Carries env scope x cl ρ ρ') (hit : IterTo w A env s.heap iter (ns.map P)) (hlen : ns.length ≤ sizeLine)
    (hkind : scope.kind = .function) (hnames : (scope.names.all fun y => y.2 != .local || scope.names.lookup y.1 == some .local) = true)
    (hcf : ∀ k, cellsFrom k scope.names cl = if own then (x, k) :: cl else cl)
    (hpush : ∀ h, pushCells h scope.names = if own then h.push { cls := .type "cell", data := .cell none } else h)
    (htgt : ∀ C, Tgt own (compEnvC scope (if own then (x, C + 1) :: cl else cl) C env) x) (hs : ∀ x, foldedSetIterable iter env x = pure x)
    (turn : ∀ a ∈ ns, ∀ C h', Ext s.heap h' → Sit w A (compEnvC scope (if own then (x, C + 1) :: cl else cl) C env) n ((x, P a) :: ρ') h' →
      TestsTo w A (compEnvC scope (if own then (x, C + 1) :: cl else cl) C env) h' ifs (q a) ∧ (q a = true → EltTo w A (compEnvC scope (if own then (x, C + 1) :: cl else cl) C env) h' elt (f a)))
    (h : ∀ s', Same s s' → Keep s.heap s'.heap → Frm w A env n h₀ ((y, .list ((ns.filter q).map f)) :: ρ) s'.heap → Q .next s') :
    wpAny (model PP w) A (exec (.Assign [.Name y py] (.ListComp elt [⟨.Name x px, iter, ifs, 0⟩] scope pos) spos) env) Q E s := by
  have hnames' : ∀ y ∈ scope.names, y.2 = .local → scope.names.lookup y.1 = some .local := fun y hy hl => by
    have := List.all_eq_true.mp hnames y hy
    rw [hl] at this
    simpa using this
  rw [exec_Assign_Name_used _ _ _ _ hsw]
  refine wpAny_bind (wpAny_standAt (wpAny_bind ?_))
  show wpAny _ A (do let _ ← comprehension (.ListComp elt [⟨.Name x px, iter, ifs, 0⟩] scope pos) scope env _ (newList []) false (eval iter env) (some (assign (.Name y py) env))) _ _ s
  refine wpAny_bind (wpAny_mono (wpAny_comprehension_free (use := some (assign (.Name y py) env)) (Q := fun _ s' => Q .next s') rfl hs hclos hkind hnames'
    (hit.use (.refl _) fun v s₁ g₁ src => ?_)) (fun _ s' hq => wpAny_pure (wpAny_pure hq)) fun _ _ e => e)
  refine comp_go (own := own) (sel := selOf ns q) (out := outOf ns f) F.rm.h src (by rw [List.length_map]; exact hlen) hkind hcf hpush htgt (turn_of F.sit hkind k turn g₁.ext) fun D C h' tk m' ys s₂ g e' hD off hd hCD hn hC => ?_
  rw [List.length_map, collect_of] at off
  have F₁ : Frm w A env n h₀ ρ h' := (F.grow g₁.ext).grow e'
  have hL : env.locals ≠ C := fun z => by
    obtain ⟨m, o, es, ep, hm, _⟩ := (F.grow g₁.ext).ns
    rw [z, hC] at hm; cases hm
  have hcc : ∀ y c, env.cells.lookup y = some c → c ≠ C := fun y c e z => by
    obtain ⟨_, v, o, ho, _⟩ := (F.grow g₁.ext).cells y c e
    rw [z, hC] at ho; cases ho
  refine wpAny_assign_Name (Frm.storeL (s := { s₂ with heap := h', toks := tk }) F₁ (Rep.mkList ⟨lstO ys, hD, rfl, _, rfl⟩ off.reps) hy fun h₂ tk₂ F₂ hs₂ => ?_)
  have hn₂ := hn.sameBut hs₂ (Ne.symm hL)
  refine ⟨_, hn₂, fun h₃ hs₃ => ?_⟩
  have hkp : Keep s.heap h₃ := ((g₁.ext.keep.trans (Ext.keep e')).trans (let ⟨m, hm⟩ := F₁.ns; Keep.sameNs hs₂ hm)).trans (Keep.sameNs hs₃ hn₂)
  obtain ⟨hh, tkk, rfl, _⟩ := g
  obtain ⟨hh', tkk', rfl, _⟩ := g₁
  refine h _ ⟨h₃, tk₂, rfl⟩ hkp (F₂.other hs₃ ?_ hL hcc (ns_notSeq hn₂))
  exact none_back F.ext (none_back (by assumption) hC)
end
end
end
section
section
variable {w : World} {A : Around} {h : Heap} {n : Nat}
theorem bindL_skip {k : Str → Option NameKind} {x : Str} : ∀ (l : List (Str × Value)) (m : Str → Option Value), (∀ p ∈ l, ¬ x = p.1) → bindL k l m x = m x
  | [], m, _ => rfl
  | (y, v) :: r, m, hx => by
    unfold bindL
    rw [bindL_skip r _ fun p hp => hx p (List.mem_cons_of_mem _ hp)]
    have := hx (y, v) List.mem_cons_self
    split
    · exact if_neg this
    · rfl
theorem bindC_skip {k : Str → Option NameKind} {x : Str} : ∀ (l : List (Str × Value)) (m : Str → Option Value), (∀ p ∈ l, ¬ x = p.1) → bindC k l m x = m x
  | [], m, _ => rfl
  | (y, v) :: r, m, hx => by
    unfold bindC
    rw [bindC_skip r _ fun p hp => hx p (List.mem_cons_of_mem _ hp)]
    have := hx (y, v) List.mem_cons_self
    split
    · rfl
    · exact if_neg this
theorem bind_get {k : Str → Option NameKind} {x : Str} {u : Value} : ∀ (names : List Str) (vs : List Value) (m m' : Str → Option Value), names.Nodup → (names.zip vs).lookup x = some u →
    (k x = some .local → bindL k (names.zip vs) m x = some u) ∧ (¬ k x = some .local → bindC k (names.zip vs) m' x = some u)
  | [], vs, m, m', _, e => by cases e
  | y :: names, [], m, m', _, e => by cases e
  | y :: names, v :: vs, m, m', hn, e => by
    obtain ⟨h1, h2⟩ := List.nodup_cons.mp hn
    rw [List.zip_cons_cons, List.lookup_cons] at e
    rw [List.zip_cons_cons]
    unfold bindL bindC
    cases q : x == y with
    | true =>
      rw [q] at e
      cases e
      have hx : x = y := by simpa using q
      subst hx
      have hnm : ∀ p ∈ names.zip vs, ¬ x = p.1 := fun p hp z => h1 (z ▸ (List.of_mem_zip hp).1)
      refine ⟨fun hk => ?_, fun hk => ?_⟩
      · rw [bindL_skip _ _ hnm, if_pos hk, if_pos rfl]
      · rw [bindC_skip _ _ hnm, if_neg hk, if_pos rfl]
    | false =>
      rw [q] at e
      exact bind_get names vs _ _ h2 e
noncomputable abbrev envC (qual : Str) (scope : Scope) (L f : Addr) (cdv : Value) : Env := { envOf qual scope L f cdv with cells := cellsFrom (L + 1) scope.names [] }
theorem Call_defC {name qual : Str} {params : Arguments} {body : List Stmt} {scope : Scope} {dV kV doc pm cdv ct oc : Value} {an od : Option Addr} {osl : Array (Option Value)} {f : Addr} {pvs : List PV} {r : PV} {names : List Str}
    (g : Glo w h) (rm : Rm A n) (hn : n ≤ 99)
    (ho : (kK w.params).lookup f = some ⟨oc, od, .func (fnOf name qual params body scope dV kV doc pm an cdv ct), osl⟩) (hcd : codeIn (kK w.params) cdv qual = true)
    (hbind : ∀ vs : List Value, vs.length = pvs.length → bindArgs (fnOf name qual params body scope dV kV doc pm an cdv ct) ⟨vs, []⟩ = pure (names.zip vs))
    (hloc : ∀ L, (names.all fun x => (scope.names.lookup x == some .local) || (scope.names.lookup x == some .cell && ((cellsFrom (L + 1) scope.names []).lookup x).isSome)) = true)
    (hco : scope.isCoroutine = false) (hgen : scope.isGenerator = false) (hk : scope.kind = .function)
    (hrev : names.Nodup)
    (b : ∀ h₀ L, Ext h h₀ → Body w (A.deeper (envC qual scope L f cdv)) (envC qual scope L f cdv) (n + 1) h₀ (names.zip pvs) body r) : CallTo w A h (.ref f) pvs r := by
  intro h' k vs rs s e
  have hs : Ext h s.heap := k.trans e
  have rs' := Reps.mono e _ _ rs
  have G := g.mono hs
  have kinds : ∀ x ∈ names.zip vs, scope.names.lookup x.1 = some .local ∨ (scope.names.lookup x.1 = some .cell ∧ ((cellsFrom (s.heap.objs.size + 1) scope.names []).lookup x.1).isSome = true) := fun x hx => by
    have := List.all_eq_true.mp (hloc s.heap.objs.size) x.1 (List.of_mem_zip hx).1
    simpa using this
  refine wpAny_call ?_
  refine codeAny_call_cells (fd := fnOf name qual params body scope dV kV doc pm an cdv ct) (body := body) (binds := names.zip vs) (rm.room (by (walk_at "my om"))) (G.X _ _ ho) rfl G.L (codeRec_of G.X hcd) rfl (hbind vs rs.length) rfl kinds (fun s₁ x => ?_) hco hgen hk
  have hE : callEnvC (fnOf name qual params body scope dV kV doc pm an cdv ct) s.heap.objs.size f = envC qual scope s.heap.objs.size f cdv := rfl
  rw [hE] at x ⊢
  obtain ⟨h₁, tk, hs₁, hk₁⟩ := x.done
  subst hs₁
  have F : Frm w (A.deeper (envC qual scope s.heap.objs.size f cdv)) (envC qual scope s.heap.objs.size f cdv) (n + 1) s.heap (names.zip pvs) h₁ :=
      { rm := rm.deeper _, hn := by (walk_at "my om"), fn := hk, eg := rfl, eb := rfl, glo0 := G, ext := hk₁, above := Nat.le_refl _, ns := ⟨_, x.toInCall.ns⟩,
        cells := fun y c e => ⟨Nat.le_of_lt (x.above y c (mem_of_lookup e)), _, x.cell y c e⟩, apart := fun y z c e e' => name_of_addr x.apart (mem_of_lookup e) (mem_of_lookup e'),
        look := fun y pv hx => by
          obtain ⟨v, r1, r2⟩ := repsLookup rs' y pv hx
          refine ⟨v, Rep.mono hk₁ _ _ r1, ?_⟩
          obtain ⟨b1, b2⟩ := bind_get (k := (envC qual scope s.heap.objs.size f cdv).kindOf) names vs (fun _ => none) (fun _ => none) hrev r2
          have kd : scope.names.lookup y = some .local ∨ (scope.names.lookup y = some .cell ∧ ((cellsFrom (s.heap.objs.size + 1) scope.names []).lookup y).isSome = true) := kinds (y, v) (mem_of_lookup r2)
          have ke : (envC qual scope s.heap.objs.size f cdv).kindOf y = scope.names.lookup y := rfl
          rcases kd with q | ⟨q, hi⟩
          · exact .inl ⟨ke.trans q, _, x.toInCall.ns, b1 (ke.trans q)⟩
          · obtain ⟨c, hc⟩ := Option.isSome_iff_exists.mp hi
            have nl : ¬ (envC qual scope s.heap.objs.size f cdv).kindOf y = some .local := by rw [ke, q]; decide
            refine .inr ⟨.inl (ke.trans q), c, hc, ?_⟩
            have := x.cell y c hc
            rw [b2 nl] at this
            exact this }
  refine wpAny_mono (b s.heap s.heap.objs.size hs _ F) (fun f s' x => ?_) fun _ _ x => x.elim
  obtain ⟨v, rfl, g1, g2, g3⟩ := x
  show Grows s s' ∧ Rep s'.heap r v
  refine ⟨?_, g3⟩
  obtain ⟨hh, tk, rfl⟩ := g1
  exact ⟨hh, tk, rfl, g2⟩
end
end
section
noncomputable def letter (k : Int) : Str := ⟨#[97 + (k % 3).toNat]⟩
theorem abc_at (k : Int) : ("abc" : Str).cps[(k % 3).toNat]? = some (97 + (k % 3).toNat) := by
  have h : k % 3 = 0 ∨ k % 3 = 1 ∨ k % 3 = 2 := by (walk_at "my om")
  rcases h with e | e | e <;> rw [e] <;> decide +kernel
noncomputable def signR (hsv : Bool) (o : Int ⊕ Int) (bs : List Int) : Str := match o with
  | .inl v => (toString v : String)
  | .inr m => letter (if hsv then bis (fun i => decide (m < bs.getD i 0)) 0 bs.length else bis (fun i => !decide (bs.getD i 0 < m + 1)) 0 bs.length)
theorem toldT_out {around p level : UInt64} {o : Int ⊕ Int} {G : Prop} (he : toldT around p level = some o)
    (k1 : (fltI around 0 || fgtI around 1) = false → feqI p 0 = true → ∀ v, fround (fmul level (fI 4)) = some v → o = .inl v → G)
    (k2 : (fltI around 0 || fgtI around 1) = false → feqI p 0 = false → ∀ a b c, fround (fmul around (fI 64)) = some a → fround (fmul p (fI 8)) = some b → fround (fmul level (fI 4)) = some c → b.natAbs < 100 → o = .inr ((a % 64 * 9 + b) * 5 + c) → G) : G := by
  unfold toldT at he
  cases c2 : (fltI around 0 || fgtI around 1) with
  | true => rw [c2, if_pos rfl] at he; cases he
  | false =>
    rw [c2, if_neg (by decide)] at he
    cases c3 : feqI p 0 with
    | true =>
      rw [c3, if_pos rfl] at he
      cases e3 : fround (fmul level (fI 4)) with
      | none => rw [e3] at he; cases he
      | some v => rw [e3] at he; cases he; exact k1 c2 c3 v e3 rfl
    | false =>
      rw [c3, if_neg (by decide)] at he
      cases e4 : fround (fmul around (fI 64)) with
      | none => rw [e4] at he; cases he
      | some a =>
      cases e5 : fround (fmul p (fI 8)) with
      | none => rw [e4, e5] at he; cases he
      | some b =>
      cases e6 : fround (fmul level (fI 4)) with
      | none => rw [e4, e5, e6] at he; cases he
      | some c =>
      rw [e4, e5, e6] at he
      by_cases c5 : b.natAbs < 100
      · replace he : (if b.natAbs < 100 then some (Sum.inr ((a % 64 * 9 + b) * 5 + c)) else none : Option (Int ⊕ Int)) = some o := he
        rw [if_pos c5] at he; cases he; exact k2 c2 c3 a b c e4 e5 e6 c5 rfl
      · replace he : (if b.natAbs < 100 then some (Sum.inr ((a % 64 * 9 + b) * 5 + c)) else none : Option (Int ⊕ Int)) = some o := he
        rw [if_neg c5] at he; cases he
theorem toldL_out {hue share value turns : Int} {o : Int ⊕ Int} {G : Prop} (he : toldL hue share value turns = some o)
    (k : ∀ twice r g b around p level, twice = value * (16 - share) → hls2rgb (fadd (fI turns) (fII hue 64)) (fII twice 64) (fII (share * value) (max 1 (min twice (64 - twice)))) = (r, g, b) → rgb2hsv r g b = some (around, p, level) → toldT around p level = some o → G) : G := by
  unfold toldL at he
  dsimp only at he
  generalize ht : value * (16 - share) = twice at he
  cases e1 : hls2rgb (fadd (fI turns) (fII hue 64)) (fII twice 64) (fII (share * value) (max 1 (min twice (64 - twice)))) with
  | mk r q =>
    obtain ⟨gg, bb⟩ := q
    rw [e1] at he
    cases e2 : rgb2hsv r gg bb with
    | none => replace he : (match rgb2hsv r gg bb with | none => none | some (around, p, level) => toldT around p level) = some o := he; rw [e2] at he; cases he
    | some q =>
      obtain ⟨around, p, level⟩ := q
      replace he : (match rgb2hsv r gg bb with | none => none | some (around, p, level) => toldT around p level) = some o := he
      rw [e2] at he
      exact k twice r gg bb around p level ht.symm e1 e2 he
theorem toldH_out {hue share value turns : Int} {o : Int ⊕ Int} {G : Prop} (he : toldH hue share value turns = some o)
    (k : ∀ r g b around light p, hsv2rgb (fadd (fI turns) (fII hue 64)) (fII share 8) (fII value 4) = some (r, g, b) → rgb2hls r g b = some (around, light, p) → toldH1 around light p = some o → G) : G := by
  unfold toldH at he
  cases e1 : hsv2rgb (fadd (fI turns) (fII hue 64)) (fII share 8) (fII value 4) with
  | none => rw [e1] at he; cases he
  | some q =>
    obtain ⟨r, gg, bb⟩ := q
    rw [e1] at he
    replace he : (match rgb2hls r gg bb with | none => none | some (around, light, p) => toldH1 around light p) = some o := he
    cases e2 : rgb2hls r gg bb with
    | none => rw [e2] at he; cases he
    | some q =>
      obtain ⟨around, light, p⟩ := q
      rw [e2] at he
      exact k r gg bb around light p e1 e2 he
theorem toldH1_out {around light p : UInt64} {o : Int ⊕ Int} {G : Prop} (he : toldH1 around light p = some o)
    (k1 : feqI p 0 = true → (fltI around 0 || fgtI around 1) = false → ∀ v, fround (fmul (lev light p) (fI 4)) = some v → o = .inl v → G)
    (k2 : feqI p 0 = false → fzero (lev light p) = false → toldT around (fsub (fI 2) (fdiv (fmul (fI 2) light) (lev light p))) (lev light p) = some o → G) : G := by
  unfold toldH1 at he
  cases c1 : feqI p 0 with
  | true =>
    rw [c1, if_pos rfl] at he
    cases c2 : (fltI around 0 || fgtI around 1) with
    | true => rw [c2, if_pos rfl] at he; cases he
    | false =>
      rw [c2, if_neg (by decide)] at he
      cases e3 : fround (fmul (lev light p) (fI 4)) with
      | none => rw [e3] at he; cases he
      | some v => rw [e3] at he; cases he; exact k1 c1 c2 v e3 rfl
  | false =>
    rw [c1, if_neg (by decide)] at he
    cases c0 : fzero (lev light p) with
    | true => rw [c0, if_pos rfl] at he; cases he
    | false => rw [c0, if_neg (by decide)] at he; exact k2 c1 c0 he
set_option maxHeartbeats 0
theorem told_spec : ∀ {w : World} {A : Around} {h : Heap} {n : Nat} (g : Glo w h) (rm : Rm A n) (hn : n ≤ 97) (hue share value turns : Int) (h1 : 0 ≤ hue) (h2 : hue < 64) (h3 : 0 ≤ share) (h4 : share < 9) (h5 : 1 ≤ value) (h6 : value ≤ 4) (h7 : 0 ≤ turns) (h8 : turns < 4)
    (hsv : Bool) (bs : List Int) (hbs : bs.length < 2 ^ 60) (o : Int ⊕ Int) (he : (if hsv then toldH hue share value turns else toldL hue share value turns) = some o) (ho : ∀ v, o = .inl v → -100000 < v ∧ v < 100000),
   CallTo (w := w) A h (.ref 90) [.list [.int hue, .int share, .int value], .int turns, .bool hsv, .list (iL bs)] (.str (signR hsv o bs)) := by
  have : (PySem.Challenge.rw_pg0232_01, kK) = (PySem.Challenge.rw_pg0232_01, kK) := rfl
  revert this
  k_fill
  intro _ w A h n g rm hn hue share value turns h1 h2 h3 h4 h5 h6 h7 h8 hsv bs hbs o he ho
  refine' Call_def (names := ["point", "turns", "by_hsv", "borders"]) g rm (by (walk_at "my om")) ?k1z ?k2z ?k3z ?k4z ?k5z ?k6z ?k7z ?k8z ?k9z ?k10z
  case k1z => k_is
  case k2z => k_is
  case k3z => exact len4 (fun _ _ _ _ => rfl)
  case k4z => rfl
  case k5z => rfl
  case k6z => rfl
  case k7z => rfl
  case k8z => rfl
  case k9z => decide
  case k10z =>
    intro h₀ L k
    walk_at "my st"
    walk_at "my st"
    · rename_i hb
      subst hb
      rw [if_pos rfl] at he
      refine toldH_out he fun r gg bb around light pure e1 e2 he => ?_
      walk_at "my st"
      walk_at "my st"
      walk_at "my st"
      refine toldH1_out he (fun c1 c2 v e3 eo => ?_) (fun c1 c0 he => ?_)
      · subst eo
        have hv := ho v rfl
        unfold lev at e3
        generalize hlev : fadd light (fmul pure (fmin light (fsub (fI 1) light))) = level at *
        refine Go.assign (pv := .int 0) (fun h F => ?_) (.inl (by with_unfolding_all exact rfl)) (by with_unfolding_all exact rfl) ?_
        · with_reducible refine' E_IfExp ?t9z ?b9z ?o9z
          case t9z => walk_at "my test"
          case b9z => intro hq; rw [c1] at hq; cases hq
          case o9z => intro _; walk_at "my ev"
        refine Go.nil ?_
        walk_at "my st"
        · rename_i hb; rw [c2] at hb; cases hb
        refine Go.nil ?_
        walk_at "my st"
        · refine' Go.ret (Body.congr ?bbz ?eez)
          case bbz => walk_at "my st"
          case eez => rfl
        · rename_i hb; first | (rw [c1] at hb; cases hb) | (simp at hb)
      · unfold lev at he c0
        generalize hlev : fadd light (fmul pure (fmin light (fsub (fI 1) light))) = level at *
        refine Go.assign (pv := .float (fsub (fI 2) (fdiv (fmul (fI 2) light) level))) (fun h F => ?_) (.inl (by with_unfolding_all exact rfl)) (by with_unfolding_all exact rfl) ?_
        · with_reducible refine' E_IfExp ?t9z ?b9z ?o9z
          case t9z => walk_at "my test"
          case b9z => intro _; walk_at "my ev"
          case o9z => intro hq; rw [c1] at hq; cases hq
        refine Go.nil ?_
        generalize fsub (fI 2) (fdiv (fmul (fI 2) light) level) = p at *
        refine toldT_out he (fun c2 c3 v e3 eo => ?_) (fun c2 c3 va vb vc e4 e5 e6 c5 eo => ?_)
        · subst eo
          have hv := ho v rfl
          walk_at "my st"
          · rename_i hb; rw [c2] at hb; cases hb
          refine Go.nil ?_
          walk_at "my st"
          · refine' Go.ret (Body.congr ?bbz ?eez)
            case bbz => walk_at "my st"
            case eez => rfl
          · rename_i hb; rw [c3] at hb; cases hb
        · subst eo
          have hnab := nab (Int.emod_nonneg va (show (64 : Int) ≠ 0 by decide)) (Int.emod_lt_of_pos va (show (0 : Int) < 64 by decide)) c5
          walk_at "my st"
          · rename_i hb; rw [c2] at hb; cases hb
          refine Go.nil ?_
          walk_at "my st"
          · rename_i hb; rw [c3] at hb; cases hb
          refine Go.nil ?_
          walk_at "my st"
          walk_at "my st"
          refine' Body.congr ?bbz ?eez
          case bbz => walk_at "my st"
          case eez => rfl
    · rename_i hb
      subst hb
      rw [if_neg (by decide)] at he
      refine toldL_out he fun twice r gg bb around pure level ht e1 e2 he => ?_
      have b1 : (16 - share).natAbs < 2 ^ 60 := by (walk_at "my om")
      have b0 : 0 ≤ 16 - share := by (walk_at "my om")
      have v0 : 0 ≤ value := by (walk_at "my om")
      have b2 : value * (16 - share) ≤ 64 ∧ 0 ≤ value * (16 - share) := ⟨Int.mul_le_mul h6 (show 16 - share ≤ 16 by (walk_at "my om")) b0 (by decide), Int.mul_nonneg v0 b0⟩
      have b3 : share * value ≤ 64 ∧ 0 ≤ share * value := ⟨Int.le_trans (Int.mul_le_mul (show share ≤ 8 by (walk_at "my om")) h6 v0 (by decide)) (by decide), Int.mul_nonneg h3 v0⟩
      walk_at "my st"
      rw [← ht] at b2 ⊢
      clear ht
      walk_at "my st"
      walk_at "my st"
      refine Go.nil ?_
      refine toldT_out he (fun c2 c3 v e3 eo => ?_) (fun c2 c3 va vb vc e4 e5 e6 c5 eo => ?_)
      · subst eo
        have hv := ho v rfl
        walk_at "my st"
        · rename_i hb; rw [c2] at hb; cases hb
        refine Go.nil ?_
        walk_at "my st"
        · refine' Go.ret (Body.congr ?bbz ?eez)
          case bbz => walk_at "my st"
          case eez => rfl
        · rename_i hb; rw [c3] at hb; cases hb
      · subst eo
        have hnab := nab (Int.emod_nonneg va (show (64 : Int) ≠ 0 by decide)) (Int.emod_lt_of_pos va (show (0 : Int) < 64 by decide)) c5
        walk_at "my st"
        · rename_i hb; rw [c2] at hb; cases hb
        refine Go.nil ?_
        walk_at "my st"
        · rename_i hb; rw [c3] at hb; cases hb
        refine Go.nil ?_
        walk_at "my st"
        walk_at "my st"
        refine' Body.congr ?bbz ?eez
        case bbz => walk_at "my st"
        case eez => rfl
end
section
noncomputable def sgnOf (o : Int ⊕ Int) (ms : List Int) : Str := match o with
  | .inl v => (toString v : String)
  | .inr m => letter ((ms.filter fun k => decide (k ≤ m)).length : Int)
set_option maxHeartbeats 0
theorem point_spec : ∀ {w : World} {A : Around} {h : Heap} {n : Nat} (g : Glo w h) (rm : Rm A n) (hn : n ≤ 99) (x : Int),
   CallTo (w := w) A h (.ref 102) [.int x] (.list [.int (x % 64), .int (x / 64 % 9), .int (x / 576 % 4 + 1)]) := by
  have : (PySem.Challenge.rw_pg0232_01, kK) = (PySem.Challenge.rw_pg0232_01, kK) := rfl
  revert this
  k_fill
  intro _ w A h n g rm hn x
  refine' Call_def (names := ["x"]) g rm hn ?k1z ?k2z ?k3z ?k4z ?k5z ?k6z ?k7z ?k8z ?k9z ?k10z
  case k1z => k_is
  case k2z => k_is
  case k3z => exact len1 (fun _ => rfl)
  case k4z => rfl
  case k5z => rfl
  case k6z => rfl
  case k7z => rfl
  case k8z => rfl
  case k9z => decide
  case k10z =>
    intro h₀ L k
    walk_at "my st"
theorem due_spec : ∀ {w : World} {A : Around} {h : Heap} {n : Nat} (g : Glo w h) (rm : Rm A n) (hn : n ≤ 99) (hue share value : Int) (hv : -100000 < value ∧ value < 100000) (hh : (hue * 9 + share).natAbs < 2 ^ 60) (hu : hue.natAbs < 2 ^ 50) (ms : List Int) (hms : ms.length < 100000),
   CallTo (w := w) A h (.ref 95) [.list [.int hue, .int share, .int value], .list (iL ms)] (.str (sgnOf (dueN hue share value) ms)) := by
  have : (PySem.Challenge.rw_pg0232_01, kK) = (PySem.Challenge.rw_pg0232_01, kK) := rfl
  revert this
  k_fill
  intro _ w A h n g rm hn hue share value hv hh hu ms hms
  refine' Call_defC (names := ["point", "marks"]) g rm hn ?k1z ?k2z ?k3z ?k4z ?k5z ?k6z ?k7z ?k8z ?k9z
  case k1z => k_is
  case k2z => k_is
  case k3z => exact len2 (fun _ _ => rfl)
  case k4z => intro L; rfl
  case k5z => rfl
  case k6z => rfl
  case k7z => rfl
  case k8z => decide
  case k9z =>
    intro h₀ L k
    walk_at "my st"
    walk_at "my st"
    · rename_i hb
      have hs : share = 0 := by simpa using hb
      unfold dueN
      rw [if_pos hs]
      refine' Go.ret (Body.congr ?bbz ?eez)
      case bbz => walk_at "my st"
      case eez => rfl
    rename_i hb
    have hs : ¬ share = 0 := by simpa using hb
    unfold dueN
    rw [if_neg hs]
    refine Go.nil ?_
    with_reducible refine' B_assign ?e9z ?k9z ?s9z ?b9z
    case e9z => (intro h F; walk_at "my ev")
    case k9z => exact .inr ⟨by with_unfolding_all exact rfl, by with_unfolding_all exact rfl⟩
    case s9z => with_unfolding_all exact rfl
    refine' Body.congr (r := .str ⟨#[97 + (((ms.filter fun k => decide (k ≤ (hue * 9 + share) * 5 + value)).length : Int) % 3).toNat]⟩) ?bbz ?eez
    case eez => rfl
    case bbz =>
      refine B_return fun h F => ?_
      have hl : (ms.filter fun k => decide (k ≤ (hue * 9 + share) * 5 + value)).length ≤ ms.length := List.length_filter_le _ _
      with_reducible refine' E_Item ?v1z ?i1z ?g1z
      case v1z => exact E_Str
      case g1z => exact G_str (by (walk_at "my om")) (m3 _) (abc_at _)
      case i1z =>
        with_reducible refine' E_BinOp ?l2z ?r2z ?o2z
        case r2z => exact E_Int
        case o2z => exact B_mod_int (by first | decide | (walk_at "my om"))
        case l2z =>
          rw [show ((ms.filter fun k => decide (k ≤ (hue * 9 + share) * 5 + value)).length) = ((ms.filter fun k => decide (k ≤ (hue * 9 + share) * 5 + value)).map PV.int).length by rw [List.length_map]]
          with_reducible refine' E_CallB F.sit ?k3z (no_len _) bt_len ?f3z ?ne3z ?db3z ?a3z ?c3 ?n3z ?p3z
          case k3z => with_unfolding_all exact rfl
          case f3z => exact .inl ⟨_, rfl⟩
          case ne3z => decide
          case db3z => with_unfolding_all exact rfl
          case c3 => exact K_len_list (by rw [List.length_map]; exact Nat.lt_trans (Nat.lt_of_le_of_lt hl hms) (by decide))
          case n3z => with_unfolding_all exact rfl
          case p3z => with_unfolding_all exact rfl
          case a3z =>
            with_reducible refine' A_cons ?e4z A_nil ?p4z
            case p4z => with_unfolding_all exact rfl
            case e4z =>
              with_reducible refine' E_unfresh (E_Comp (own := false) (cl := [("number", L + 1)]) (ρ' := [("number", .int ((hue * 9 + share) * 5 + value))]) (ns := ms) (P := PV.int) (q := fun k => decide (k ≤ (hue * 9 + share) * 5 + value)) (f := PV.int) F.sit ?c1 ?c2 ?c3 ?c4 ?c5 ?c6 ?c7 ?c8 ?c9 ?c10 ?c11)
              case c1 => with_unfolding_all exact rfl
              case c2 => exact .cons (by with_unfolding_all exact rfl) (by with_unfolding_all exact rfl) (by with_unfolding_all exact rfl) (by with_unfolding_all exact rfl) (.inl (by with_unfolding_all exact rfl)) (.inl (by with_unfolding_all exact rfl)) .nil
              case c3 => exact .list (by walk_at "my ev")
              case c4 => exact Nat.le_trans (Nat.le_of_lt hms) (by decide)
              case c5 => exact rfl
              case c6 => exact rfl
              case c7 => exact fun _ => rfl
              case c8 => exact fun _ => rfl
              case c9 => exact fun _ => rfl
              case c10 => exact fun _ => rfl
              case c11 =>
                intro a ha C h' e S'
                refine ⟨Tests.one ?_, fun _ => EltTo.flat trivial ?_⟩
                · walk_at "my test"
                · walk_at "my ev"
end
section
section
variable {w : World} {A : Around} {env : Env} {h : Heap}
/-- a call of a method of a built-in type -/
theorem E_Meth {o : PySem.Expr} {name : Str} {apos pos : Pos} {es : List PySem.Expr} {x r : PV} {pvs : List PV} {T id : String} (ho : EvalsTo w A env h o x) (hT : ∀ (s : Shared) v, Rep s.heap x v → s.TypeIs v T)
    (pa : PlainAttrs T) (slot : PySem.Slot T name id) (ty : typeOf (.builtin id) = pure (.type "method_descriptor")) (hd : ∀ (h' : Heap) v a, Rep h' x v → v = .ref a → ∃ ob, h'.get? a = some ob ∧ ob.dict = Option.none)
    (hargs : ArgsTo w A env h pos es pvs) (hc : CallTo w A h (.builtin id) (x :: pvs) r)
    (hbase : attributeBase o name env (eval o env) = eval o env) (hline : (apos.endLine == pos.line) = true)
    (hfew : ((backTo pos (starEach es env)).all (fun x => !x.1) && (backToKw pos (keywordEach [] env)).all (fun x => x.1.isSome)
      && decide (es.length + ([] : List Keyword).length + (if ([] : List Keyword).isEmpty then 0 else 1) < 30)) = true)
    (hn : (es.all fun e => !isStarred e) = true) (hplain : (backTo pos (starEach es env)).any (·.1) = false) :
    EvalsTo w A env h (.Call (.Attribute o name apos) es [] pos) r := by
  intro s e
  refine wpAny_Call_method_lateS hbase hfew hline (ho.use e fun ov s₁ g₁ r₁ => ⟨T, id, pa, slot, ty, hT s₁ ov r₁, fun a q => hd _ ov a r₁ q, ?_⟩)
  refine callWith_of (P := fun h' => Ext h h') (by rw [hplain]; rfl) Kept.builtin ?_
  refine evalArgs_any (fun e he => by simpa using List.all_eq_true.mp hn e he) ?_
  refine hargs.use (e.trans g₁.ext) fun vs s₂ g₂ r₂ => ?_
  refine ⟨(e.trans g₁.ext).trans g₂.ext, ?_⟩
  exact (hc s₂.heap ((e.trans g₁.ext).trans g₂.ext) (ov :: vs) (Reps.cons (Rep.mono g₂.ext _ _ r₁) r₂)).use (.refl _) fun v s₃ g₃ r₃ => ⟨(g₁.trans g₂).trans g₃, r₃⟩
theorem str_type (x : Str) : ∀ (s : Shared) v, Rep s.heap (.str x) v → s.TypeIs v "str" := fun s v r => by
  obtain ⟨t, rfl⟩ := rep_str r
  exact typeIs_str s x t
theorem str_dict (x : Str) : ∀ (h' : Heap) v a, Rep h' (.str x) v → v = .ref a → ∃ ob, h'.get? a = some ob ∧ ob.dict = Option.none := fun h' v a r q => by
  obtain ⟨t, rfl⟩ := rep_str r
  cases q
theorem K_startswith {x y : Str} : CallTo w A h (.builtin "str.startswith") [.str x, .str y] (.bool (decide (0 + y.length ≤ x.length) && Builtin.Str.subAt x y 0)) := by
  intro h' k vs r s e
  obtain ⟨a, b, rfl, ra, rb⟩ := reps2 r
  obtain ⟨t, rfl⟩ := rep_str ra
  obtain ⟨u, rfl⟩ := rep_str rb
  refine call_gives F.slot_str_startswith (typeIs_str s x t) F.entry_str_startswith (F.args_str_startswith_2 _ _) (gives_str_startswith x y t u) ?_
  exact ⟨.refl s, .mkBool _⟩
theorem K_endswith {x y : Str} : CallTo w A h (.builtin "str.endswith") [.str x, .str y] (.bool (decide (0 + y.length ≤ x.length) && Builtin.Str.subAt x y (x.length - y.length))) := by
  intro h' k vs r s e
  obtain ⟨a, b, rfl, ra, rb⟩ := reps2 r
  obtain ⟨t, rfl⟩ := rep_str ra
  obtain ⟨u, rfl⟩ := rep_str rb
  refine call_gives F.slot_str_endswith (typeIs_str s x t) F.entry_str_endswith (F.args_str_endswith_2 _ _) (gives_str_endswith x y t u) ?_
  exact ⟨.refl s, .mkBool _⟩

theorem gives_find4 (x y : Str) (i j : Int) (t u v z : Tok) : Gives (Builtin.«str.find» ⟨[.str x t, .str y u, .int i v, .int j z], []⟩) (.int (match Builtin.Str.occurrences x y (fromIndex x.length i) (min (fromIndex x.length j) x.length) 1 with | k :: _ => (k : Int) | [] => -1)) := by
  show Gives (match Builtin.Str.occurrences x y (fromIndex x.length i) (min (fromIndex x.length j) x.length) 1 with | k :: _ => retInt k | [] => (do rule "str.find.not-found"; retInt (-1))) _
  cases Builtin.Str.occurrences x y (fromIndex x.length i) (min (fromIndex x.length j) x.length) 1 with
  | nil => exact .rule (.of_eq rfl)
  | cons k _ => exact .of_eq rfl
theorem K_find {x y : Str} {i j : Int} : CallTo w A h (.builtin "str.find") [.str x, .str y, .int i, .int j] (.int (match Builtin.Str.occurrences x y (fromIndex x.length i) (min (fromIndex x.length j) x.length) 1 with | k :: _ => (k : Int) | [] => -1)) := by
  intro h' k vs r s e
  obtain ⟨a, b, c, d, rfl, ra, rb, rc, rd⟩ := reps4 r
  obtain ⟨t, rfl⟩ := rep_str ra
  obtain ⟨u, rfl⟩ := rep_str rb
  obtain ⟨v, rfl⟩ := rep_int rc
  obtain ⟨z, rfl⟩ := rep_int rd
  refine call_gives F.slot_str_find (typeIs_str s x t) F.entry_str_find (F.args_str_find_4 _ _ _ _) (gives_find4 x y i j t u v z) ?_
  exact ⟨.tok s _, .mkInt _ _⟩
end
end
section
section
variable {w : World} {A : Around} {env : Env} {h : Heap}
noncomputable def sL (xs : List Str) : List PV := xs.map PV.str
theorem reps_strsFrom {h : Heap} : ∀ (tk : Nat) (xs : List Str), Reps h (sL xs) (strsFrom tk xs)
  | _, [] => .nil
  | tk, x :: r => .cons (.mkStr _ _) (reps_strsFrom (tk + 1) r)
noncomputable def parts (x y : Str) : List Str := Builtin.Str.partsBetween x (Builtin.Str.occurrences x y 0 x.length (x.length + 1)) y.length
theorem K_split {x y : Str} (h1 : (decide (x.length < y.length) || decide (Builtin.Str.strKind x < Builtin.Str.strKind y)) = false) (hy : (y.length == 0) = false) (hf : (Builtin.Str.occurrences x y 0 x.length (x.length + 1)).isEmpty = false) (hx : x.length ≤ sizeLine)
    (hn : (parts x y).length ≤ sizeLine) : CallTo w A h (.builtin "str.split") [.str x, .str y] (.fresh h (.list (sL (parts x y)))) := by
  intro h' k vs r s e
  obtain ⟨a, b, rfl, ra, rb⟩ := reps2 r
  obtain ⟨t, rfl⟩ := rep_str ra
  obtain ⟨u, rfl⟩ := rep_str rb
  refine call_meets F.slot_str_split (typeIs_str s x t) F.entry_str_split (F.args_str_split_2 _ _) (meets_str_split_sep x y t u h1 hy hf hx hn) ?_
  refine ⟨⟨_, _, rfl, Ext.push _ _⟩, ?_⟩
  simp only [Rep]
  have hg : (s.heap.push { cls := .type "list", data := .seq (strsFrom s.toks (parts x y)).toArray }).get? s.heap.objs.size = some { cls := .type "list", data := .seq (strsFrom s.toks (parts x y)).toArray } := Heap.get?_push_size _ rfl
  refine ⟨⟨_, _, _, rfl, ?_, hg⟩, _, _, rfl, ⟨_, hg, rfl, _, rfl⟩, reps_strsFrom _ _⟩
  refine none_back (k.trans e) ?_
  cases q : s.heap.get? s.heap.objs.size with
  | none => rfl
  | some o => exact absurd (Heap.lt_size q) (Nat.lt_irrefl _)
end
end
section
section
/-- the lists other than these stand still -/
noncomputable def StillX (M : List Addr) (h h' : Heap) : Prop := ∀ b o xs n, b ∉ M → h.get? b = some o → o.data = .seq xs n → h'.get? b = some o
theorem Still.x {M : List Addr} {h h' : Heap} (k : Still h h') : StillX M h h' := fun b o xs n _ e q => k b o xs n e q
theorem StillX.trans {M : List Addr} {a b c : Heap} (x : StillX M a b) (y : StillX M b c) : StillX M a c := fun i o xs n m e q => y i o xs n m (x i o xs n m e q) q
theorem StillX.of {a : Addr} {M : List Addr} {h h' : Heap} (k : Heap.ExtBut a h h') (m : a ∈ M) : StillX M h h' := fun b o _ _ nb e _ => k b o (fun q => nb (q ▸ m)) e
noncomputable def Apart (M : List Addr) (pv : PV) : Prop := ∀ h h' v, StillX M h h' → Rep h pv v → Rep h' pv v
theorem Apart.flat {M : List Addr} {pv : PV} (f : Flat pv) : Apart M pv := fun _ _ _ _ r => f.rep r
theorem aparts {M : List Addr} {h h' : Heap} (k : StillX M h h') : ∀ {ps : List PV} {vs : List Value}, (∀ p ∈ ps, Apart M p) → Reps h ps vs → Reps h' ps vs
  | [], _, _, r => by simpa only [Reps] using r
  | p :: ps, _, a, r => by
    simp only [Reps] at r ⊢
    obtain ⟨v, q, rfl, r1, r2⟩ := r
    exact ⟨v, q, rfl, a p List.mem_cons_self _ _ _ k r1, aparts k (fun x hx => a x (List.mem_cons_of_mem _ hx)) r2⟩
theorem rep_lst {h : Heap} {a : Addr} {xs : List PV} {v : Value} (e : Rep h (.lst a xs) v) : v = .ref a ∧ ∃ vs : List Value, h.PlainList a vs.toArray ∧ Reps h xs vs := by
  simp only [Rep] at e
  obtain ⟨e1, vs, n, e2, e3⟩ := e
  exact ⟨e1, vs, ⟨n, e2⟩, e3⟩
theorem Rep.mkLst {h : Heap} {a : Addr} {xs : List PV} {vs : List Value} (l : h.PlainList a vs.toArray) (r : Reps h xs vs) : Rep h (.lst a xs) (.ref a) := by
  obtain ⟨n, e⟩ := l
  simp only [Rep]
  exact ⟨trivial, vs, n, e, r⟩
theorem Rep.unlst {h : Heap} {a : Addr} {xs : List PV} {v : Value} (e : Rep h (.lst a xs) v) : Rep h (.list xs) v := by
  obtain ⟨rfl, vs, l, r⟩ := rep_lst e
  exact .mkList l.isList r
theorem Rep.ofFresh {hb h : Heap} {xs : List PV} {v : Value} (e : Rep h (.fresh hb (.list xs)) v) : ∃ a, hb.get? a = none ∧ Rep h (.lst a xs) v := by
  obtain ⟨⟨a, items, n, rfl, e2, e3⟩, e4⟩ := rep_fresh' e
  obtain ⟨a', vs, q, ⟨o, ho, hc, n', hd⟩, rs⟩ := rep_list e4
  cases q
  rw [e3] at ho
  cases ho
  cases hd
  exact ⟨a, e2, .mkLst ⟨n, e3⟩ rs⟩
theorem Apart.lst {M : List Addr} {a : Addr} {xs : List PV} (na : a ∉ M) (hx : ∀ x ∈ xs, Apart M x) : Apart M (.lst a xs) := fun h h' v k r => by
  obtain ⟨rfl, vs, ⟨n, l⟩, r'⟩ := rep_lst r
  exact .mkLst ⟨n, k a _ _ _ na l rfl⟩ (aparts k hx r')
theorem Apart.old {M : List Addr} {hb : Heap} {x : PV} (hM : ∀ a ∈ M, hb.get? a = none) : Apart M (.old hb x) := fun h h' v k r => by
  simp only [Rep] at r ⊢
  refine ⟨fun b o xs n e q => k b o xs n (fun m => ?_) (r.1 b o xs n e q) q, r.2⟩
  rw [hM b m] at e; cases e
theorem Rep.unold {hb h : Heap} {x : PV} {v : Value} (r : Rep h (.old hb x) v) : Rep h x v := by
  simp only [Rep] at r
  exact Rep.still r.1 _ _ r.2
theorem plain_notNs {h : Heap} {a b : Addr} {items : Array Value} {m : Str → Option Value} (x : h.PlainList a items) (y : h.Ns b m) : b ≠ a := fun q => by
  subst q
  obtain ⟨n, e⟩ := x
  exact ns_notSeq y _ _ _ e rfl
theorem plain_notCell {h : Heap} {a b : Addr} {items : Array Value} {v : Option Value} (x : h.PlainList a items) (y : h.IsCell b v) : b ≠ a := fun q => by
  subst q
  obtain ⟨n, e⟩ := x
  exact cell_notSeq y _ _ _ e rfl
end
section
variable {w : World} {A : Around} {env : Env} {n : Nat} {h₀ h : Heap} {ρ : List (Str × PV)}
theorem E_unlst {e : PySem.Expr} {a : Addr} {xs : List PV} (x : EvalsTo w A env h e (.lst a xs)) : EvalsTo w A env h e (.list xs) := Ev.imp x fun _ _ _ r => r.unlst
theorem E_unold {hb : Heap} {e : PySem.Expr} {p : PV} (x : EvalsTo w A env h e (.old hb p)) : EvalsTo w A env h e p := Ev.imp x fun _ _ _ r => r.unold
/-- one list has turned; these names do not lean on it -/
theorem Frm.turn {h' : Heap} {a : Addr} {items : Array Value} {ρ' : List (Str × PV)} (F : Frm w A env n h₀ ρ h) (hp : h.PlainList a items) (k : Heap.ExtBut a h h') (h0 : h₀.get? a = none)
    (hρ : ∀ q ∈ ρ', ρ.lookup q.1 = some q.2 ∧ Apart [a] q.2) : Frm w A env n h₀ ρ' h' :=
  have st : StillX [a] h h' := .of k List.mem_cons_self
  have nsk : ∀ {m : Str → Option Value} {b : Addr}, h.Ns b m → h'.Ns b m := fun x => x.at' fun o e => k _ o (plain_notNs hp x) e
  have ck : ∀ {b : Addr} {v : Option Value}, h.IsCell b v → h'.IsCell b v := fun {b v} x => by
    have nb := plain_notCell hp x
    obtain ⟨o, e, d⟩ := x
    exact ⟨o, k _ o nb e, d⟩
  { F with
    ext := fun b o e => k b o (fun q => by subst q; rw [h0] at e; cases e) (F.ext b o e)
    ns := let ⟨m, x⟩ := F.ns; ⟨m, nsk x⟩
    cells := fun x c e => let ⟨x1, v, x2⟩ := F.cells x c e; ⟨x1, v, ck x2⟩
    look := fun x pv e => by
      obtain ⟨h1, h2⟩ := hρ _ (mem_of_lookup e)
      obtain ⟨v, r, sl⟩ := F.look x pv h1
      refine ⟨v, h2 _ _ _ st r, ?_⟩
      rcases sl with ⟨k1, m, hm, hv⟩ | ⟨k1, c, hc, hv⟩
      · exact .inl ⟨k1, m, nsk hm, hv⟩
      · exact .inr ⟨k1, c, hc, ck hv⟩ }
theorem Frm.mutate {h' : Heap} {a : Addr} {xs xs' : List PV} {x : Str} {ρ' : List (Str × PV)} (F : Frm w A env n h₀ ρ h) (hx : ρ.lookup x = some (.lst a xs)) (k : Heap.ExtBut a h h') (h0 : h₀.get? a = none)
    (hr : Rep h' (.lst a xs') (.ref a)) (hρ : ∀ q ∈ ρ', ρ.lookup q.1 = some q.2 ∧ Apart [a] q.2) : Frm w A env n h₀ ((x, .lst a xs') :: ρ') h' := by
  obtain ⟨v, r, sl⟩ := F.look x _ hx
  obtain ⟨rfl, vs, hp, rs⟩ := rep_lst r
  have F' := F.turn hp k h0 hρ
  have nsk : ∀ {m : Str → Option Value} {b : Addr}, h.Ns b m → h'.Ns b m := fun x => x.at' fun o e => k _ o (plain_notNs hp x) e
  have ck : ∀ {b : Addr} {v : Option Value}, h.IsCell b v → h'.IsCell b v := fun {b v} x => by
    have nb := plain_notCell hp x
    obtain ⟨o, e, d⟩ := x
    exact ⟨o, k _ o nb e, d⟩
  refine { F' with look := fun y pv e => ?_ }
  by_cases hy : y = x
  · subst hy
    rw [lookup_cons_eq] at e
    cases e
    refine ⟨_, hr, ?_⟩
    rcases sl with ⟨k1, m, hm, hv⟩ | ⟨k1, c, hc, hv⟩
    · exact .inl ⟨k1, m, nsk hm, hv⟩
    · exact .inr ⟨k1, c, hc, ck hv⟩
  · rw [lookup_cons_ne hy] at e
    exact F'.look y pv e
/-- the address of a list that is new to the frame -/
theorem Frm.openFresh {x : Str} {xs : List PV} (F : Frm w A env n h₀ ((x, .fresh h₀ (.list xs)) :: ρ) h) : ∃ a, h₀.get? a = none ∧ Frm w A env n h₀ ((x, .lst a xs) :: ρ) h := by
  obtain ⟨v, r, sl⟩ := F.look x _ lookup_cons_eq
  obtain ⟨a, ha, r'⟩ := Rep.ofFresh r
  refine ⟨a, ha, { F with look := fun y pv e => ?_ }⟩
  by_cases hy : y = x
  · subst hy
    rw [lookup_cons_eq] at e
    cases e
    exact ⟨v, r', sl⟩
  · rw [lookup_cons_ne hy] at e
    exact F.look y pv (by rw [lookup_cons_ne hy]; exact e)
theorem B_openFresh {x : Str} {xs : List PV} {rest : List Stmt} {r : PV} (b : ∀ a, h₀.get? a = none → Body w A env n h₀ ((x, .lst a xs) :: ρ) rest r) : Body w A env n h₀ ((x, .fresh h₀ (.list xs)) :: ρ) rest r := fun s F => by
  obtain ⟨a, ha, F'⟩ := F.openFresh
  exact b a ha s F'
theorem Rep.freshDown {hb hb' h : Heap} {p : PV} {v : Value} (k : Ext hb hb') (r : Rep h (.fresh hb' p) v) : Rep h (.fresh hb p) v := by
  simp only [Rep] at r ⊢
  obtain ⟨⟨a, items, m, e1, e2, e3⟩, e4⟩ := r
  exact ⟨⟨a, items, m, e1, none_back k e2, e3⟩, e4⟩
theorem E_freshDown {hb hb' : Heap} {e : PySem.Expr} {p : PV} (k : Ext hb hb') (x : EvalsTo w A env h e (.fresh hb' p)) : EvalsTo w A env h e (.fresh hb p) := Ev.imp x fun _ _ _ r => r.freshDown k

/-- del xs[i] -/
theorem step_del {x : Str} {px p pos : Pos} {ie : PySem.Expr} {a : Addr} {xs : List PV} {i : Int} {k : Nat} {ρ' : List (Str × PV)} {s : Shared} {Q : Flow → Shared → Prop} {E : Value → Shared → Prop}
    (F : Frm w A env n h₀ ρ s.heap) (hx : ρ.lookup x = some (.lst a xs)) (hdb : (x == ("__debug__" : Str)) = false) (hcd : (x == ("__classdict__" : Str)) = false) (hi : EvalsTo w A env s.heap ie (.int i)) (h0 : h₀.get? a = none)
    (hfit : Builtin.List.listFitsIndex i = true) (hk : seqIndex? i xs.length = some k) (hsz : xs.length ≤ sizeLine) (hρ : ∀ q ∈ ρ', ρ.lookup q.1 = some q.2 ∧ Apart [a] q.2) (hxs : ∀ p ∈ xs, Apart [a] p)
    (h : ∀ s', Same s s' → Frm w A env n h₀ ((x, .lst a (xs.eraseIdx k)) :: ρ') s'.heap → Q .next s') : wpAny (model PP w) A (exec (.Delete [.Subscript (.Name x px) ie p] pos) env) Q E s := by
  refine wpAny_Delete (wpAny_deleteEach_cons (wpAny_delete_Subscript ((E_Name F.sit hx hdb hcd).use (.refl _) fun v s₁ g₁ r₁ => hi.use g₁.ext fun iv s₂ g₂ r₂ => ?_)))
  obtain ⟨rfl, vs, hp, rs⟩ := rep_lst r₁
  obtain ⟨t, rfl⟩ := rep_int r₂
  have hp₂ : s₂.heap.PlainList a vs.toArray := hp.at fun o e => g₂.ext _ o e
  have F₂ := (F.grow g₁.ext).grow g₂.ext
  have rs₂ := Reps.mono g₂.ext _ _ rs
  have hl := rs.length
  refine wpAny_delItem_plain hp₂ hfit (by rw [List.size_toArray, hl]; exact hk) (fun h' hp' k' => ?_) (by rw [List.size_toArray, hl]; exact hsz)
  refine wpAny_deleteEach_nil ?_
  have hkl : k < xs.length := by
    unfold seqIndex? at hk
    simp only at hk
    split at hk <;> split at hk <;> simp at hk <;> rename_i h1 h2 <;> simp at h2 <;> (walk_at "my om")
  have e1 : vs.toArray.eraseIdxIfInBounds k = (vs.eraseIdx k).toArray := by
    apply Array.ext'
    simp only [Array.eraseIdxIfInBounds]
    rw [dif_pos (by rw [List.size_toArray, hl]; exact hkl)]
    simp
  rw [e1] at hp'
  have rs' : Reps h' (xs.eraseIdx k) (vs.eraseIdx k) := by
    have := aparts (StillX.of k'.extBut List.mem_cons_self) hxs rs₂
    have e2 : ∀ {α : Type} (l : List α), l.eraseIdx k = l.take k ++ l.drop (k + 1) := fun l => List.eraseIdx_eq_take_drop_succ l k
    rw [e2, e2]
    exact (this.take k).append (this.drop (k + 1))
  exact h _ (Same.trans (Same.trans g₁.same g₂.same) ⟨_, _, rfl⟩) (F₂.mutate hx k'.extBut h0 (.mkLst hp' rs') hρ)

theorem Bk_del {C : List (Str × PV) → Prop} {x : Str} {px p pos : Pos} {ie : PySem.Expr} {a : Addr} {xs : List PV} {i : Int} {k : Nat} {ρ' : List (Str × PV)} {more : List Stmt} {r : PV}
    (hx : ρ.lookup x = some (.lst a xs)) (hdb : (x == ("__debug__" : Str)) = false) (hcd : (x == ("__classdict__" : Str)) = false) (hi : ∀ h, Frm w A env n h₀ ρ h → EvalsTo w A env h ie (.int i)) (h0 : h₀.get? a = none)
    (hfit : Builtin.List.listFitsIndex i = true) (hk : seqIndex? i xs.length = some k) (hsz : xs.length ≤ sizeLine) (hρ : ∀ q ∈ ρ', ρ.lookup q.1 = some q.2 ∧ Apart [a] q.2) (hxs : ∀ p ∈ xs, Apart [a] p)
    (b : Blk w A env n h₀ false ((x, .lst a (xs.eraseIdx k)) :: ρ') more C r) : Blk w A env n h₀ false ρ (.Delete [.Subscript (.Name x px) ie p] pos :: more) C r := by
  intro s F
  refine wpAny_execs_cons (step_del F hx hdb hcd (hi _ F) h0 hfit hk hsz hρ hxs fun s' g F' => ?_)
  refine wpAny_mono (b s' F') (fun f s'' p => ?_) fun _ _ x => x
  exact ⟨g.trans p.1, (fun q => by cases q), p.2.2⟩

/-- x op= e -/
noncomputable def InTo (w : World) (A : Around) (h : Heap) (op : Operator) (x y z : PV) : Prop := ∀ h', Ext h h' → ∀ a b, Rep h' x a → Rep h' y b → Ev w A (inplaceOp op a b) h' fun v h'' => Rep h'' z v
theorem I_add_int {a b : Int} : InTo w A h .Add (.int a) (.int b) (.int (a + b)) := by
  intro h' _ u v hu hv s e
  obtain ⟨t, rfl⟩ := rep_int hu; obtain ⟨t', rfl⟩ := rep_int hv
  refine AutoIntOps.iadd_0 ?_
  exact ⟨.tok s _, .mkInt _ _⟩
theorem I_sub_int {a b : Int} : InTo w A h .Sub (.int a) (.int b) (.int (a - b)) := by
  intro h' _ u v hu hv s e
  obtain ⟨t, rfl⟩ := rep_int hu; obtain ⟨t', rfl⟩ := rep_int hv
  refine AutoIntOps.isub_0 ?_
  exact ⟨.tok s _, .mkInt _ _⟩
theorem Bk_aug {kp : Bool} {C : List (Str × PV) → Prop} {x : Str} {px pos : Pos} {op : Operator} {e : PySem.Expr} {more : List Stmt} {r p q z : PV}
    (hx : ρ.lookup x = some p) (hl : env.kindOf x = some .local) (he : ∀ h, Frm w A env n h₀ ρ h → EvalsTo w A env h e q) (hop : ∀ h, Frm w A env n h₀ ρ h → InTo w A h op p q z)
    (b : Blk w A env n h₀ kp ((x, z) :: ρ) more C r) : Blk w A env n h₀ kp ρ (.AugAssign (.Name x px) op e pos :: more) C r := by
  intro s F
  refine wpAny_execs_cons (wpAny_AugAssign_Name ?_)
  obtain ⟨v, rv, sl⟩ := F.look x p hx
  rcases sl with ⟨_, m, hm, hv⟩ | ⟨k1, _⟩
  · refine wpAny_loadName_local F.fn hl hm hv ?_
    refine (he _ F).use (.refl _) fun u s₁ g₁ r₁ => ?_
    refine (hop _ F _ g₁.ext v u (Rep.mono g₁.ext _ _ rv) r₁).use (.refl _) fun y s₂ g₂ r₂ => ?_
    refine ((F.grow g₁.ext).grow g₂.ext).store r₂ (.inl hl) fun h' tk F' _ k => ?_
    exact b.from F' ((g₁.same.trans g₂.same).trans ⟨_, _, rfl⟩) ((g₁.ext.keep.trans g₂.ext.keep).trans k)
  · rw [hl] at k1; rcases k1 with k1 | k1 <;> cases k1
theorem B_assert {t : PySem.Expr} {pos : Pos} {rest : List Stmt} {r : PV} (ht : ∀ h, Frm w A env n h₀ ρ h → TestTo w A env h t true) (b : Body w A env n h₀ ρ rest r) : Body w A env n h₀ ρ (.Assert t none pos :: rest) r := by
  intro s F
  refine wpAny_execs_cons (wpAny_Assert_holds ((ht _ F).use (.refl _) fun v s' g p => ?_))
  exact ⟨p, b.after (F.grow g.ext) g.same⟩
/-- an if whose branches meet again -/
theorem B_ifJ {C : List (Str × PV) → Prop} {t : PySem.Expr} {body orelse rest : List Stmt} {pos : Pos} {b : Bool} {r : PV} (ht : ∀ h, Frm w A env n h₀ ρ h → TestTo w A env h t b)
    (h1 : b = true → Blk w A env n h₀ false ρ body C r) (h0 : b = false → Blk w A env n h₀ false ρ orelse C r) (hr : ∀ ρ', C ρ' → Body w A env n h₀ ρ' rest r) : Body w A env n h₀ ρ (.If t body orelse pos :: rest) r := by
  refine B_if ht (fun q => ?_) (fun q => ?_) <;> intro s F
  · refine wpAny_mono (h1 q s F) (fun f s' p => ?_) fun _ _ x => x
    obtain ⟨a, _, ⟨e, ρ', F', c⟩ | ⟨v, x, y, z⟩⟩ := p
    · exact .inl ⟨e, a, ρ', F', hr _ c⟩
    · exact .inr ⟨v, x, a, y, z⟩
  · refine wpAny_mono (h0 q s F) (fun f s' p => ?_) fun _ _ x => x
    obtain ⟨a, _, ⟨e, ρ', F', c⟩ | ⟨v, x, y, z⟩⟩ := p
    · exact .inl ⟨e, a, ρ', F', hr _ c⟩
    · exact .inr ⟨v, x, a, y, z⟩
theorem Body.sub {stmts : List Stmt} {r : PV} {ρ' : List (Str × PV)} (k : ∀ q ∈ ρ', ρ.lookup q.1 = some q.2) (b : Body w A env n h₀ ρ' stmts r) : Body w A env n h₀ ρ stmts r := fun s F => b s (F.sub (sub_of k))
theorem T_str {e : PySem.Expr} {x : Str} (he : EvalsTo w A env h e (.str x)) (hx : x.length < 2 ^ 62) (hs : ∀ whole, isTrue e env whole = (do let v ← whole; standAt e.pos; holding [v] (truthy v))) : TestTo w A env h e ((x.length : Int) != 0) := by
  intro s k
  refine wpAny_isTrue_value (he.use k fun v s₁ g₁ r₁ => ?_) (hs _)
  obtain ⟨t, rfl⟩ := rep_str r₁
  exact PySem.P.truthy_str (by (walk_at "my om")) ⟨g₁.trans (.tok _ _), rfl⟩
theorem G_neg {xs : List PV} {i : Int} {r : PV} (h0 : i < 0) (h1 : -(xs.length : Int) ≤ i) (hf : -(2 ^ 63) ≤ i) (hx : xs[(i + xs.length).toNat]? = some r) : GetTo w A h (.list xs) (.int i) r := by
  intro h' k o j ro rj
  obtain ⟨a, vs, rfl, l, rs⟩ := rep_list ro
  obtain ⟨t, rfl⟩ := rep_int rj
  refine ⟨"list", _, fun s e => (isList_ext l e).typeIs, slot_list_getitem.lookup, fun s e => ?_⟩
  obtain ⟨v, hv, rv⟩ := rs.get _ _ hx
  have hl := rs.length
  refine wpAny_getItem_list_neg (isList_ext l e) h0 (by rw [List.size_toArray, hl]; exact h1) hf (by rw [List.size_toArray, hl]; simpa using hv) ?_
  exact ⟨.refl s, Rep.mono e _ _ rv⟩
theorem E_neg {e : PySem.Expr} {pos : Pos} {i : Int} (he : EvalsTo w A env h e (.int i)) : EvalsTo w A env h (.UnaryOp .USub e pos) (.int (-i)) := by
  intro s k
  refine wpAny_UnaryOp (he.use k fun v s₁ g₁ r₁ => ?_)
  obtain ⟨t, rfl⟩ := rep_int r₁
  exact PyProof.Rows.neg_int ⟨g₁.trans (.tok _ _), .mkInt _ _⟩
end
end
section
noncomputable def pl (got : Str) (st en : Nat) (w : Str) : List Nat := Builtin.Str.occurrences got w (fromIndex got.length (st : Int)) (min (fromIndex got.length (en : Int)) got.length) 1
noncomputable def findsB (got : Str) (en : Nat) : List Str → Nat → Bool
  | [], _ => true
  | w :: ws, st => match pl got st en w with | k :: _ => findsB got en ws (k + w.length) | [] => false
noncomputable def tailB (got : Str) (ws : List Str) (st en : Nat) : Bool := if en < st then false else findsB got en ws st
noncomputable def endsW (got w : Str) : Bool := decide (0 + w.length ≤ got.length) && Builtin.Str.subAt got w (got.length - w.length)
noncomputable def startsW (got w : Str) : Bool := decide (0 + w.length ≤ got.length) && Builtin.Str.subAt got w 0
noncomputable def lastB (got : Str) (ws : List Str) (st : Nat) : Bool :=
  if (ws.getLastD ⟨#[]⟩).length = 0 then tailB got ws st got.length
  else if endsW got (ws.getLastD ⟨#[]⟩) = true then tailB got ws.dropLast st (got.length - (ws.getLastD ⟨#[]⟩).length) else false
noncomputable def headB (got : Str) (ws : List Str) : Bool := match ws with
  | [] => false
  | w :: r => if w.length = 0 then lastB got (w :: r) 0 else if startsW got w = true then lastB got r w.length else false
noncomputable abbrev dots : Str := "..."
noncomputable def ellB (want got : Str) : Bool := if (Builtin.Str.occurrences want dots 0 want.length 1).isEmpty then want == got else headB got (parts want dots)
theorem sL_flat {xs : List Str} : ∀ p ∈ sL xs, Flat p := fun p hp => by
  obtain ⟨x, _, rfl⟩ := List.mem_map.mp hp
  trivial
theorem sL_apart {M : List Addr} {xs : List Str} : ∀ p ∈ sL xs, Apart M p := fun p hp => .flat (sL_flat p hp)
theorem sL_erase {xs : List Str} {k : Nat} : (sL xs).eraseIdx k = sL (xs.eraseIdx k) := by
  unfold sL
  rw [List.eraseIdx_eq_take_drop_succ, List.eraseIdx_eq_take_drop_succ, List.map_append, List.map_take, List.map_drop]
theorem parts_length {x y : Str} : (parts x y).length = (Builtin.Str.occurrences x y 0 x.length (x.length + 1)).length + 1 := by
  unfold parts Builtin.Str.partsBetween
  simp
theorem parts_le {x y p : Str} (hp : p ∈ parts x y) : p.length ≤ x.length := by
  unfold parts Builtin.Str.partsBetween at hp
  obtain ⟨⟨i, j⟩, _, rfl⟩ := List.mem_map.mp hp
  show (x.cps.extract i j).size ≤ x.cps.size
  rw [Array.size_extract]
  exact Nat.le_trans (Nat.sub_le _ _) (Nat.min_le_right _ _)
theorem strKind_one {x : Str} : decide (Builtin.Str.strKind x < Builtin.Str.strKind dots) = false := by
  have : Builtin.Str.strKind dots = 1 := by decide +kernel
  rw [this]
  unfold Builtin.Str.strKind
  split
  · rfl
  · split <;> rfl
theorem occ_some {x y : Str} (h : (Builtin.Str.occurrences x y 0 x.length 1).isEmpty = false) : (Builtin.Str.occurrences x y 0 x.length (x.length + 1)).isEmpty = false ∧ y.length ≤ x.length := by
  have h1 : (!(Builtin.Str.occurrences x y 0 x.length 1).isEmpty) = true := by rw [h]; rfl
  obtain ⟨i, h2, h3⟩ := (StrLaws.found_iff x y).mp h1
  refine ⟨?_, by (walk_at "my om")⟩
  rcases StrLaws.occ_head x y (x.length + 1) (by (walk_at "my om")) with ⟨_, q⟩ | ⟨i, r, e, _⟩
  · exact absurd ⟨h2, h3⟩ (q i)
  · rw [e]; rfl
theorem seq0 {n : Nat} (h : 0 < n) : seqIndex? 0 n = some 0 := by
  unfold seqIndex?
  simp [h]
noncomputable abbrev cE (want got : Str) (a : Addr) (w : Str) (ws : List Str) (st en : Nat) : List (Str × PV) := [("w", .str w), ("ws", .lst a (sL ws)), ("startpos", .int (st : Int)), ("endpos", .int (en : Int)), ("got", .str got)]
set_option maxHeartbeats 0
theorem ell_spec : ∀ {w : World} {A : Around} {h : Heap} {n : Nat} (g : Glo w h) (rm : Rm A n) (hn : n ≤ 98) (want got : Str) (hw : want.length < 1000000) (hg : got.length < 1000000),
   CallTo (w := w) A h (.ref 83) [.str want, .str got] (.bool (ellB want got)) := by
  have : (PySem.Challenge.rw_pg0232_01, kK) = (PySem.Challenge.rw_pg0232_01, kK) := rfl
  revert this
  k_fill
  intro _ w A h n g rm hn want got hw hg
  refine' Call_def (names := ["want", "got"]) g rm (by (walk_at "my om")) ?k1z ?k2z ?k3z ?k4z ?k5z ?k6z ?k7z ?k8z ?k9z ?k10z
  case k1z => k_is
  case k2z => k_is
  case k3z => exact len2 (fun _ _ => rfl)
  case k4z => rfl
  case k5z => rfl
  case k6z => rfl
  case k7z => rfl
  case k8z => rfl
  case k9z => decide
  case k10z =>
    intro h₀ L k
    refine B_if (b := (Builtin.Str.occurrences want dots 0 want.length 1).isEmpty) (fun h F => TestTo.congr (T_Compare (x := .str dots) (y := .str want) ?t1z (by walk_at "my ev") C_notin_str (by with_unfolding_all exact rfl)) (Bool.not_not _)) (fun hb => ?b1z) (fun hb => ?b0z)
    case t1z => walk_at "my ev"
    case b1z =>
      refine Go.ret (B_return fun h F => EvalsTo.congr (E_Compare (by walk_at "my ev") (by walk_at "my ev") C_eq_str (by with_unfolding_all exact rfl)) ?_)
      unfold ellB
      rw [hb]; rfl
    case b0z =>
      refine Go.nil ?_
      obtain ⟨ho1, ho2⟩ := occ_some hb
      have hpl : (parts want dots).length ≤ want.length + 2 := by
        rw [parts_length]
        have := StrLaws.occ_length_le want dots 0 want.length (want.length + 1)
        (walk_at "my om")
      have hp2 : 2 ≤ (parts want dots).length := by
        rw [parts_length]
        cases hq : Builtin.Str.occurrences want dots 0 want.length (want.length + 1) with
        | nil => rw [hq] at ho1; cases ho1
        | cons i r => simp
      have hsz : sizeLine = 16777216 := rfl
      have hr : ellB want got = headB got (parts want dots) := by unfold ellB; rw [hb]; rfl
      rw [hr]
      clear hr
      refine B_assign (pv := .fresh h₀ (.list (sL (parts want dots)))) (fun h F => E_freshDown F.ext (E_Meth (x := .str want) (pvs := [.str dots]) ?m1z (str_type _) PySem.F.plainAttrs_str PySem.F.slot_str_split PySem.F.type_str_split (str_dict _) ?m2z (K_split ?m3z rfl ho1 (by (walk_at "my om")) (by (walk_at "my om"))) rfl rfl rfl rfl rfl)) (.inl (by with_unfolding_all exact rfl)) (by with_unfolding_all exact rfl) ?_
      case m1z => walk_at "my ev"
      case m2z => walk_at "my args"
      case m3z => rw [strKind_one, decide_eq_false (by (walk_at "my om"))]; rfl
      have hall : ∀ v ∈ parts want dots, v.length < 1000000 := fun v hv => Nat.lt_of_le_of_lt (parts_le hv) hw
      generalize parts want dots = ws at *
      refine B_openFresh fun a ha => ?_
      refine B_assert (fun h F => TestTo.congr (T_Compare (x := .int (sL ws).length) (y := .int 2) ?a1z E_Int C_ge_int (by with_unfolding_all exact rfl)) (decide_eq_true (by unfold sL; rw [List.length_map]; (walk_at "my om")))) ?_
      case a1z =>
        refine E_CallB (pvs := [.list (sL ws)]) F.sit (by with_unfolding_all exact rfl) (no_len _) bt_len (.inl ⟨_, rfl⟩) (by decide) (by with_unfolding_all exact rfl) (A_cons (E_unlst (by walk_at "my ev")) A_nil (by with_unfolding_all exact rfl)) (K_len_list (by unfold sL; rw [List.length_map]; (walk_at "my om"))) (by with_unfolding_all exact rfl) (by with_unfolding_all exact rfl)
      obtain ⟨w0, ws', rfl⟩ : ∃ w0 ws', ws = w0 :: ws' := by
        cases ws with
        | nil => simp at hp2
        | cons x y => exact ⟨x, y, rfl⟩
      have hne : ws' ≠ [] := by rintro rfl; simp at hp2
      have hw0 : w0.length < 1000000 := hall w0 List.mem_cons_self
      refine B_swapped (names := ["startpos", "endpos"]) (pv := .tuple [.int 0, .int (got.length : Int)]) (pvs := [.int 0, .int (got.length : Int)]) (fun h F => by walk_at "my ev") Seqs.t rfl (fm (Storable.loc (by with_unfolding_all exact rfl)) (fm (Storable.loc (by with_unfolding_all exact rfl)) fm0)) (by with_unfolding_all exact rfl) (by with_unfolding_all exact rfl) ?_
      refine B_assign (pv := .str w0) (fun h F => E_Item (E_unlst (by walk_at "my ev")) (by walk_at "my ev") (G_list (by (walk_at "my om")) (by (walk_at "my om")) rfl)) (.inl (by with_unfolding_all exact rfl)) (by with_unfolding_all exact rfl) ?_
      refine B_ifJ (C := fun ρ' => ∃ w st xs, xs ≠ [] ∧ (∀ v ∈ xs, v.length < 1000000) ∧ xs.length ≤ (w0 :: ws').length ∧ headB got (w0 :: ws') = lastB got xs st ∧ ∀ q ∈ cE want got a w xs st got.length, ρ'.lookup q.1 = some q.2) (b := ((w0.length : Int) != 0)) (fun h F => T_str (by walk_at "my ev") (by (walk_at "my om")) (fun _ => rfl)) (fun hb => ?p1z) (fun hb => ?p0z) ?prz
      case p0z =>
        have hz : w0.length = 0 := by simpa using hb
        refine Bk_nil ⟨w0, 0, w0 :: ws', by simp, hall, Nat.le_refl _, ?_, ?_⟩
        · show (if w0.length = 0 then lastB got (w0 :: ws') 0 else _) = _
          rw [if_pos hz]
        · walk_at "my lk"
      case p1z =>
        have hz : ¬ w0.length = 0 := by simpa using hb
        refine Bk_if (b := startsW got w0) (fun h F => T_bool (E_Meth (x := .str got) (pvs := [.str w0]) (by walk_at "my ev") (str_type _) PySem.F.plainAttrs_str PySem.F.slot_str_startswith PySem.F.type_str_startswith (str_dict _) (by walk_at "my args") K_startswith rfl rfl rfl rfl rfl) (fun _ => rfl)) (fun hs => ?q1z) (fun hs => ?q0z)
        case q0z =>
          refine Bk_eq (Bk_ret (fun h F => E_Bool)) ?_
          show PV.bool false = .bool (if w0.length = 0 then lastB got (w0 :: ws') 0 else if startsW got w0 = true then lastB got ws' w0.length else false)
          rw [if_neg hz, if_neg (by rw [hs]; exact Bool.false_ne_true)]
        case q1z =>
          refine Bk_assign (pv := .int (w0.length : Int)) (fun h F => by walk_at "my ev") (.inl (by with_unfolding_all exact rfl)) (by with_unfolding_all exact rfl) ?_
          refine Bk_del (a := a) (xs := sL (w0 :: ws')) (i := 0) (k := 0) (ρ' := [("w", .str w0), ("startpos", .int (w0.length : Int)), ("endpos", .int (got.length : Int)), ("got", .str got)]) (by with_unfolding_all exact rfl) rfl rfl (fun h F => E_Int) ha rfl (seq0 (by unfold sL; simp)) (by unfold sL; rw [List.length_map]; (walk_at "my om")) ?_ sL_apart ?_
          · (((try with_unfolding_all (show ∀ q ∈ (_ :: _ : List _), _)); repeat (first | exact fm0 | refine fm ⟨by walk_at "my r", Apart.flat trivial⟩ ?_)))
          refine Bk_nil (Bk_nil ⟨w0, w0.length, ws', hne, fun v hv => hall v (List.mem_cons_of_mem _ hv), by simp, ?_, ?_⟩)
          · show (if w0.length = 0 then lastB got (w0 :: ws') 0 else if startsW got w0 = true then lastB got ws' w0.length else false) = _
            rw [if_neg hz, if_pos hs]
          · walk_at "my lk"
      case prz =>
        rintro ρ' ⟨w, st, xs, hxn, hxa, hxl, hr, hsub⟩
        rw [hr]
        clear hr hne
        refine Body.sub hsub ?_
        clear hsub
        have hxl' : xs.length < 10000000 := by (walk_at "my om")
        have hlast : xs[(-1 + (xs.length : Int)).toNat]? = some (xs.getLastD ⟨#[]⟩) := by
          have h1 := neg1 xs.length
          rw [h1, ← List.getLast?_eq_getElem?, List.getLast?_eq_some_getLast hxn, List.getLastD_eq_getLast?, List.getLast?_eq_some_getLast hxn]; rfl
        have hpos : 0 < xs.length := List.length_pos_iff.mpr hxn
        refine B_assign (pv := .str (xs.getLastD ⟨#[]⟩)) (fun h F => E_Item (E_unlst (by walk_at "my ev")) (E_neg E_Int) (G_neg (by (walk_at "my om")) ?_ (by (walk_at "my om")) ?_)) (.inl (by with_unfolding_all exact rfl)) (by with_unfolding_all exact rfl) ?_
        · unfold sL; rw [List.length_map]; (walk_at "my om")
        · unfold sL; rw [List.length_map, List.getElem?_map, hlast]; rfl
        have hwb : (xs.getLastD ⟨#[]⟩).length < 1000000 := hxa _ (List.mem_of_getElem? hlast)
        generalize hwl : xs.getLastD ⟨#[]⟩ = wl at *
        refine B_ifJ (C := fun ρ' => ∃ w en ys, (∀ v ∈ ys, v.length < 1000000) ∧ ys.length ≤ xs.length ∧ lastB got xs st = tailB got ys st en ∧ ∀ q ∈ cE want got a w ys st en, ρ'.lookup q.1 = some q.2) (b := ((wl.length : Int) != 0)) (fun h F => T_str (by walk_at "my ev") (by (walk_at "my om")) (fun _ => rfl)) (fun hb => ?p1z) (fun hb => ?p0z) ?prz
        case p0z =>
          have hz : wl.length = 0 := by simpa using hb
          refine Bk_nil ⟨wl, got.length, xs, hxa, Nat.le_refl _, ?_, ?_⟩
          · unfold lastB
            rw [hwl, if_pos hz]
          · walk_at "my lk"
        case p1z =>
          have hz : ¬ wl.length = 0 := by simpa using hb
          refine Bk_if (b := endsW got wl) (fun h F => T_bool (E_Meth (x := .str got) (pvs := [.str wl]) (by walk_at "my ev") (str_type _) PySem.F.plainAttrs_str PySem.F.slot_str_endswith PySem.F.type_str_endswith (str_dict _) (by walk_at "my args") K_endswith rfl rfl rfl rfl rfl) (fun _ => rfl)) (fun hs => ?q1z) (fun hs => ?q0z)
          case q0z =>
            refine Bk_eq (Bk_ret (fun h F => E_Bool)) ?_
            unfold lastB
            rw [hwl, if_neg hz, if_neg (by rw [hs]; exact Bool.false_ne_true)]
          case q1z =>
            have hle : wl.length ≤ got.length := by
              unfold endsW at hs
              simp at hs
              (walk_at "my om")
            refine Bk_aug (p := .int (got.length : Int)) (q := .int (wl.length : Int)) (z := .int ((got.length - wl.length : Nat) : Int)) (by with_unfolding_all exact rfl) (by with_unfolding_all exact rfl) (fun h F => by walk_at "my ev") (fun h F => ?_) ?_
            · rw [show ((got.length - wl.length : Nat) : Int) = (got.length : Int) - (wl.length : Int) from by (walk_at "my om")]
              exact I_sub_int
            refine Bk_del (a := a) (xs := sL xs) (i := -1) (k := xs.length - 1) (ρ' := [("w", .str wl), ("startpos", .int (st : Int)), ("endpos", .int ((got.length - wl.length : Nat) : Int)), ("got", .str got)]) (by with_unfolding_all exact rfl) rfl rfl (fun h F => E_neg E_Int) ha rfl ?_ (by unfold sL; rw [List.length_map]; (walk_at "my om")) ?_ sL_apart ?_
            · unfold sL
              rw [List.length_map]
              have := hpos
              unfold seqIndex?
              simp only [show (-1 : Int) < 0 from by (walk_at "my om"), if_true]
              rw [if_pos (by simp; (walk_at "my om"))]
              congr 1
              (walk_at "my om")
            · (((try with_unfolding_all (show ∀ q ∈ (_ :: _ : List _), _)); repeat (first | exact fm0 | refine fm ⟨by walk_at "my r", Apart.flat trivial⟩ ?_)))
            rw [sL_erase]
            refine Bk_nil (Bk_nil ⟨wl, got.length - wl.length, xs.eraseIdx (xs.length - 1), fun v hv => hxa v (List.mem_of_mem_eraseIdx hv), by rw [List.length_eraseIdx]; split <;> (walk_at "my om"), ?_, ?_⟩)
            · unfold lastB
              rw [hwl, if_neg hz, if_pos hs, List.eraseIdx_length_sub_one]
            · walk_at "my lk"
        case prz =>
          rintro ρ' ⟨w, en, ys, hya, hyl, hr, hsub⟩
          rw [hr]
          clear hr
          refine Body.sub hsub ?_
          clear hsub
          refine B_if (b := decide ((en : Int) < (st : Int))) (fun h F => by walk_at "my test") (fun hb => ?p1z) (fun hb => ?p0z)
          case p1z =>
            have hz : en < st := by have := of_decide_eq_true hb; (walk_at "my om")
            refine Go.ret (Body.congr (B_return fun h F => E_Bool) ?_)
            unfold tailB
            rw [if_pos hz]
          case p0z =>
            have hz : ¬ en < st := by have := of_decide_eq_false hb; (walk_at "my om")
            refine Go.nil (Body.ofBlk ?_)
            have hres : tailB got ys st en = findsB got en ys st := by unfold tailB; rw [if_neg hz]
            rw [hres]
            refine Bk_for (items := sL ys) (I := fun i ρ' => ∃ w st', findsB got en (ys.drop i) st' = findsB got en ys st ∧ ∀ q ∈ cE want got a w ys st' en, ρ'.lookup q.1 = some q.2) (fun h F => E_unlst (by walk_at "my ev")) (.inl (by with_unfolding_all exact rfl)) ⟨w, st, rfl, by walk_at "my lk"⟩ ?_ ?_ (by with_unfolding_all exact fun _ => rfl) (by with_unfolding_all exact fun _ _ => rfl)
            · rintro i y ρ' ⟨w', st', hf, hsub⟩ hy
              obtain ⟨v, hv, rfl⟩ : ∃ v, ys[i]? = some v ∧ y = .str v := by
                unfold sL at hy
                rw [List.getElem?_map] at hy
                cases q : ys[i]? with
                | none => rw [q] at hy; cases hy
                | some v => rw [q] at hy; cases hy; exact ⟨v, rfl, rfl⟩
              refine Bk_sub (ρ' := cE want got a v ys st' en) (sub_of (sub_cons (by with_unfolding_all exact rfl) (List.forall_mem_cons.mp hsub).2)) ?_
              clear hsub
              have hdrop : ys.drop i = v :: ys.drop (i + 1) := by
                obtain ⟨hi, e⟩ := List.getElem?_eq_some_iff.mp hv
                rw [List.drop_eq_getElem_cons hi, e]
              rw [hdrop] at hf
              have hvb : v.length < 1000000 := hya v (List.mem_of_getElem? hv)
              refine Bk_assign (pv := .int (match pl got st' en v with | k :: _ => (k : Int) | [] => -1)) (fun h F => E_Meth (x := .str got) (pvs := [.str v, .int (st' : Int), .int (en : Int)]) (by walk_at "my ev") (str_type _) PySem.F.plainAttrs_str PySem.F.slot_str_find PySem.F.type_str_find (str_dict _) (by walk_at "my args") K_find rfl rfl rfl rfl rfl) (.inl (by with_unfolding_all exact rfl)) (by with_unfolding_all exact rfl) ?_
              cases hpl' : pl got st' en v with
              | nil =>
                refine Bk_if (b := true) (fun h F => TestTo.congr (T_Compare (x := .int (-1)) (y := .int 0) (by walk_at "my ev") E_Int C_lt_int (by with_unfolding_all exact rfl)) rfl) (fun _ => ?_) (fun q => by cases q)
                refine Bk_eq (Bk_ret (fun h F => E_Bool)) ?_
                rw [← hf]
                show _ = PV.bool (match pl got st' en v with | k :: _ => findsB got en (ys.drop (i + 1)) (k + v.length) | [] => false)
                rw [hpl']
              | cons k' r' =>
                refine Bk_if (b := false) (fun h F => TestTo.congr (T_Compare (x := .int (k' : Int)) (y := .int 0) (by walk_at "my ev") E_Int C_lt_int (by with_unfolding_all exact rfl)) (decide_eq_false (by (walk_at "my om")))) (fun q => by cases q) (fun _ => Bk_nil ?_)
                refine Bk_aug (p := .int (k' : Int)) (q := .int (v.length : Int)) (z := .int ((k' + v.length : Nat) : Int)) (by with_unfolding_all exact rfl) (by with_unfolding_all exact rfl) (fun h F => by walk_at "my ev") (fun h F => ?_) ?_
                · rw [Int.natCast_add]
                  exact I_add_int
                refine Bk_nil ⟨v, k' + v.length, ?_, ?_⟩
                · rw [← hf]
                  show _ = (match pl got st' en v with | k :: _ => findsB got en (ys.drop (i + 1)) (k + v.length) | [] => false)
                  rw [hpl']
                · walk_at "my lk"
            · rintro ρ' ⟨w', st', hf, hsub⟩
              refine Bk_eq (Bk_ret (fun h F => E_Bool)) ?_
              rw [← hf, show (sL ys).length = ys.length by unfold sL; rw [List.length_map], List.drop_length]
              rfl
end
section
section
variable {w : World} {A : Around} {env : Env} {n : Nat} {h₀ h : Heap} {ρ : List (Str × PV)}
theorem Ev_Call {fn : PySem.Expr} {es : List PySem.Expr} {pos : Pos} {f : Value} {PA : List Value → Heap → Prop} {P : Value → Heap → Prop} (hf : Ev w A (eval fn env) h fun u _ => u = f) (hk : Kept w h f) (hargs : Ev w A (spliced (backTo pos (starEach es env))) h PA)
    (hc : ∀ h' vs, Ext h h' → PA vs h' → Ev w A (call f vs) h' P)
    (hn : (es.all fun e => !isStarred e) = true) (hplain : (backTo pos (starEach es env)).any (·.1) = false)
    (he : eval (.Call fn es [] pos) env = (do callWith pos (← eval fn env) [] (backTo pos (starEach es env)) (backToKw pos (keywordEach [] env)))) :
    Ev w A (eval (.Call fn es [] pos) env) h P := by
  intro s e
  rw [he]
  refine wpAny_bind (hf.use e fun u s₁ g₁ r₁ => ?_)
  subst r₁
  refine callWith_of (P := fun h' => Ext h h') (by rw [hplain]; rfl) hk ?_
  refine evalArgs_any (fun e he => by simpa using List.all_eq_true.mp hn e he) ?_
  refine hargs.use (e.trans g₁.ext) fun vs s₂ g₂ r₂ => ?_
  refine ⟨(e.trans g₁.ext).trans g₂.ext, ?_⟩
  exact (hc s₂.heap vs ((e.trans g₁.ext).trans g₂.ext) r₂).use (.refl _) fun v s₃ g₃ r₃ => ⟨(g₁.trans g₂).trans g₃, r₃⟩
noncomputable def nL (ks : List Nat) : List PV := ks.map fun (k : Nat) => PV.int (k : Int)
theorem nL_eq {ks : List Nat} : nL ks = iL (ks.map fun (k : Nat) => (k : Int)) := by unfold nL iL; rw [List.map_map]; rfl
noncomputable def IsRg (h : Heap) (k : Nat) (v : Value) : Prop := ∃ (r : Addr) (t u z : Tok), v = .ref r ∧ IsRange h r 0 (k : Int) 1 t u z
/-- range(e) -/
theorem Ev_range {p pos : Pos} {e : PySem.Expr} {k : Nat} (S : Sit w A env n ρ h) (hk : env.kindOf "range" = some .globalImplicit) (he : EvalsTo w A env h e (.int (k : Int)))
    (hp : starEach [e] env = (false, eval e env) :: starEach [] env) (hst : isStarred e = false) : Ev w A (eval (.Call (.Name "range" p) [e] [] pos) env) h fun v h' => IsRg h' k v := by
  refine Ev_Call (f := .type "range") (PA := fun vs h' => Reps h' [.int (k : Int)] vs) (E_Blt S hk (no_range w) bt_range (by decide) (by decide)) Kept.type (A_cons he A_nil hp) (fun h' vs k' r => ?_) (by simp [hst]) (by rw [hp]; rfl) rfl
  obtain ⟨a, rfl, ra⟩ := reps1 r
  obtain ⟨t, rfl⟩ := rep_int ra
  intro s e
  refine call_range_1 ?_
  exact ⟨⟨_, _, rfl, Ext.push _ _⟩, _, _, _, _, rfl, Heap.get?_push_size _ rfl⟩
theorem IterTo.range {p pos : Pos} {e : PySem.Expr} {k : Nat} (S : Sit w A env n ρ h) (hk : env.kindOf "range" = some .globalImplicit) (he : EvalsTo w A env h e (.int (k : Int))) (hlt : k < 2 ^ 30)
    (hp : starEach [e] env = (false, eval e env) :: starEach [] env) (hst : isStarred e = false) : IterTo w A env h (.Call (.Name "range" p) [e] [] pos) (nL (List.range k)) :=
  Ev.imp (Ev_range S hk he hp hst) fun v h' _ ⟨r, t, u, z, e1, e2⟩ => .inr ⟨r, k, t, u, z, e1, e2, hlt, rfl⟩
theorem reps_nats {h : Heap} : ∀ {acc : List Value} {m : Nat}, (∀ (j : Nat) (v : Value), acc[j]? = some v → ∃ t, v = Value.int ((m + j : Nat) : Int) t) → Reps h (nL ((List.range acc.length).map (m + ·))) acc
  | [], m, _ => .nil
  | v :: r, m, k => by
    obtain ⟨t, e⟩ := k 0 v rfl
    subst e
    have ih := reps_nats (h := h) (acc := r) (m := m + 1) fun j u hu => by
      obtain ⟨t, e⟩ := k (j + 1) u (by simpa using hu)
      exact ⟨t, by rw [e]; congr 2; (walk_at "my om")⟩
    rw [List.length_cons, List.range_succ_eq_map, List.map_cons, List.map_map]
    unfold nL at ih ⊢
    rw [List.map_cons, List.map_map] 
    rw [List.map_map] at ih
    refine .cons (.mkInt _ _) ?_
    rw [show ((fun (k : Nat) => PV.int (k : Int)) ∘ ((fun x => m + x) ∘ Nat.succ)) = ((fun (k : Nat) => PV.int (k : Int)) ∘ (fun x => m + 1 + x)) from by funext x; simp only [Function.comp]; congr 2; (walk_at "my om")]
    exact ih
/-- list(range(e)) -/
theorem E_listRange {p p' pos pos' : Pos} {e : PySem.Expr} {k : Nat} (S : Sit w A env n ρ h) (hk : env.kindOf "range" = some .globalImplicit) (hk' : env.kindOf "list" = some .globalImplicit) (he : EvalsTo w A env h e (.int (k : Int))) (hlt : k < 2 ^ 24)
    (hp : starEach [e] env = (false, eval e env) :: starEach [] env) (hst : isStarred e = false) : EvalsTo w A env h (.Call (.Name "list" p') [.Call (.Name "range" p) [e] [] pos] [] pos') (.list (nL (List.range k))) := by
  refine Ev_Call (f := .type "list") (PA := fun vs h' => ∃ v, vs = [v] ∧ IsRg h' k v) (E_Blt S hk' (no_list w) bt_list (by decide) (by decide)) Kept.type (fun s e' => ?_) (fun h' vs k' r => ?_) rfl rfl rfl
  · refine args_cons ?_ rfl
    refine (Ev_range S hk he hp hst).use e' fun v s₁ g₁ r₁ => ?_
    exact args_nil ⟨g₁, v, rfl, r₁⟩
  · obtain ⟨v, rfl, r, t, u, z, rfl, hr⟩ := r
    intro s e
    obtain ⟨q1, q2⟩ := src_range_small (k := k) (by (walk_at "my om"))
    refine call_list_range S.rm.h (e _ _ hr) q1 q2 (by (walk_at "my om")) fun h'' tk acc c hk hS hacc => ?_
    refine ⟨⟨h'', tk, rfl, hk⟩, ?_⟩
    obtain ⟨h1, h2⟩ := hacc
    have hrep : Reps h'' (nL (List.range k)) acc.toList := by
      have := reps_nats (h := h'') (acc := acc.toList) (m := 0) fun j v hv => by
        obtain ⟨t, e⟩ := h2 j v (by simpa using hv)
        exact ⟨t, by rw [e, show (0 : Int) + (j : Int) * 1 = ((0 + j : Nat) : Int) from by omega/-k-/]⟩
      rw [Array.length_toList, h1] at this
      simpa using this
    exact .mkList (vs := acc.toList) ⟨_, hS, rfl, _, rfl⟩ hrep
end
end
section
section
variable {w : World} {A : Around} {env : Env} {n : Nat} {h₀ h : Heap} {ρ : List (Str × PV)}
noncomputable def noHeap : Heap := ⟨#[], {}⟩
theorem noExt (h : Heap) : Ext noHeap h := fun b o e => by simp [noHeap, Heap.get?] at e
/-- a call whose arguments may turn things -/
theorem Call_raw {fn : PySem.Expr} {es : List PySem.Expr} {pos : Pos} {f : Value} {hb : Heap} {s : Shared} {Q : Value → Shared → Prop} {E : Value → Shared → Prop} (hf : Ev w A (eval fn env) s.heap fun u _ => u = f) (hk : Kept w hb f)
    (hargs : ∀ s₁, Grows s s₁ → wpAny (model PP w) A (spliced (backTo pos (starEach es env))) (fun vs s₂ => Ext hb s₂.heap ∧ wpAny (model PP w) A (call f vs) Q E s₂) E s₁)
    (hn : (es.all fun e => !isStarred e) = true) (hplain : (backTo pos (starEach es env)).any (·.1) = false)
    (he : eval (.Call fn es [] pos) env = (do callWith pos (← eval fn env) [] (backTo pos (starEach es env)) (backToKw pos (keywordEach [] env)))) :
    wpAny (model PP w) A (eval (.Call fn es [] pos) env) Q E s := by
  rw [he]
  refine wpAny_bind (hf.use (.refl _) fun u s₁ g₁ r₁ => ?_)
  subst r₁
  refine callWith_of (P := fun h' => Ext hb h') (by rw [hplain]; rfl) hk ?_
  exact evalArgs_any (fun e he => by simpa using List.all_eq_true.mp hn e he) (hargs s₁ g₁)
theorem Meth_raw {o : PySem.Expr} {name : Str} {apos pos : Pos} {es : List PySem.Expr} {x : PV} {T id : String} {s : Shared} {Q : Value → Shared → Prop} {E : Value → Shared → Prop} (ho : EvalsTo w A env s.heap o x) (hT : ∀ (s : Shared) v, Rep s.heap x v → s.TypeIs v T)
    (pa : PlainAttrs T) (slot : PySem.Slot T name id) (ty : typeOf (.builtin id) = pure (.type "method_descriptor")) (hd : ∀ (h' : Heap) v a, Rep h' x v → v = .ref a → ∃ ob, h'.get? a = some ob ∧ ob.dict = Option.none)
    (hargs : ∀ ov s₁, Grows s s₁ → Rep s₁.heap x ov → wpAny (model PP w) A (spliced (backTo pos (starEach es env))) (fun vs s₂ => wpAny (model PP w) A (call (.builtin id) (ov :: vs)) Q E s₂) E s₁)
    (hbase : attributeBase o name env (eval o env) = eval o env) (hline : (apos.endLine == pos.line) = true)
    (hfew : ((backTo pos (starEach es env)).all (fun x => !x.1) && (backToKw pos (keywordEach [] env)).all (fun x => x.1.isSome)
      && decide (es.length + ([] : List Keyword).length + (if ([] : List Keyword).isEmpty then 0 else 1) < 30)) = true)
    (hn : (es.all fun e => !isStarred e) = true) (hplain : (backTo pos (starEach es env)).any (·.1) = false) :
    wpAny (model PP w) A (eval (.Call (.Attribute o name apos) es [] pos) env) Q E s := by
  refine wpAny_Call_method_lateS hbase hfew hline (ho.use (.refl _) fun ov s₁ g₁ r₁ => ⟨T, id, pa, slot, ty, hT s₁ ov r₁, fun a q => hd _ ov a r₁ q, ?_⟩)
  refine callWith_of (P := fun h' => Ext noHeap h') (by rw [hplain]; rfl) (Kept.builtin (h := noHeap)) ?_
  refine evalArgs_any (fun e he => by simpa using List.all_eq_true.mp hn e he) ?_
  exact wpAny_mono (hargs ov s₁ g₁ r₁) (fun vs s₂ h => ⟨noExt _, h⟩) fun _ _ x => x
theorem lst_type (a : Addr) (xs : List PV) : ∀ (s : Shared) v, Rep s.heap (.lst a xs) v → s.TypeIs v "list" := fun s v r => by
  obtain ⟨rfl, vs, hp, _⟩ := rep_lst r
  exact hp.isList.typeIs
theorem lst_dict (b : Addr) (xs : List PV) : ∀ (h' : Heap) v a, Rep h' (.lst b xs) v → v = .ref a → ∃ ob, h'.get? a = some ob ∧ ob.dict = Option.none := fun h' v a r q => by
  obtain ⟨rfl, vs, ⟨n, hp⟩, _⟩ := rep_lst r
  cases q
  exact ⟨_, hp, rfl⟩
theorem E_ListF {es : List PySem.Expr} {pos : Pos} {pvs : List PV} (ha : ArgsTo w A env h pos es pvs) (hsz : pvs.length ≤ sizeLine) : EvalsTo w A env h (.List es pos) (.fresh h (.list pvs)) := by
  intro s e
  refine List_ (ha.use e fun vs s₁ g₁ r₁ => ?_)
  have hl : vs.length = pvs.length := r₁.length
  refine wpAny_newObj_type ?_ (by show vs.toArray.size ≤ sizeLine; rw [List.size_toArray, hl]; exact hsz)
  have k := Ext.push s₁.heap { cls := .type "list", data := .seq vs.toArray }
  have hg : (s₁.heap.push { cls := .type "list", data := .seq vs.toArray }).get? s₁.heap.objs.size = some { cls := .type "list", data := .seq vs.toArray } := Heap.get?_push_size _ rfl
  refine ⟨g₁.trans (.heap' k), ?_⟩
  simp only [Rep]
  refine ⟨⟨_, _, _, rfl, none_back (e.trans g₁.ext) ?_, hg⟩, _, _, rfl, ⟨_, hg, rfl, _, rfl⟩, Reps.mono k _ _ r₁⟩
  cases q : s₁.heap.get? s₁.heap.objs.size with
  | none => rfl
  | some o => exact absurd (Heap.lt_size q) (Nat.lt_irrefl _)
noncomputable def insI (ns : List Int) (k : Nat) (x : Int) : List Int := ns.take k ++ x :: ns.drop k
theorem reps_ins {h : Heap} {ns : List Int} {vs : List Value} {x : Int} {v : Value} {k : Nat} (r : Reps h (iL ns) vs) (rv : Rep h (.int x) v) : Reps h (iL (insI ns k x)) (vs.take k ++ v :: vs.drop k) := by
  unfold insI iL at *
  rw [List.map_append, List.map_cons, List.map_take, List.map_drop]
  exact (r.take k).append (.cons rv (r.drop k))
theorem call_insert {D : Addr} {ns : List Int} {vs : List Value} {k : Nat} {t : Tok} {x : Int} {v : Value} {s : Shared} {Q : Value → Shared → Prop} {E : Value → Shared → Prop} (hp : s.heap.PlainList D vs.toArray) (r : Reps s.heap (iL ns) vs) (rv : Rep s.heap (.int x) v)
    (hk : k ≤ ns.length) (hsz : ns.length < 1000000) (hQ : ∀ h', Heap.ExtBut D s.heap h' → Rep h' (.lst D (iL (insI ns k x))) (.ref D) → Q .none { s with heap := h' }) :
    wpAny (model PP w) A (call (.builtin "list.insert") [.ref D, .int (k : Int) t, v]) Q E s := by
  obtain ⟨m, ho⟩ := hp
  have hl : vs.length = ns.length := by rw [r.length]; unfold iL; rw [List.length_map]
  have hfit : Builtin.List.listFitsIndex (k : Int) = true := by
    have h2 : (k : Int) < 2 ^ 63 := by have : (k : Int) < 1000000 := by (walk_at "my om")
                                       exact Int.lt_trans this (by decide)
    unfold Builtin.List.listFitsIndex
    rw [decide_eq_true h2, decide_eq_true (Int.le_trans (by decide) (Int.natCast_nonneg k))]; rfl
  have hz : vs.toArray.size ≤ sizeLine := by rw [List.size_toArray, hl]; exact Nat.le_trans (Nat.le_of_lt hsz) (Nat.le_of_ble_eq_true rfl)
  obtain ⟨i, hi⟩ : ∃ i : Int, i = (k : Int) := ⟨_, rfl⟩
  rw [← hi] at hfit ⊢
  have M := PySem.AutoSeq1.list_insert_list_int_val_1 D vs.toArray m i t v (by rw [hfit]; simp) hz
  refine call_meets PySem.F.slot_list_insert ⟨_, ho, rfl⟩ PySem.F.entry_list_insert (PySem.F.args_list_insert_3 _ _ _) M ⟨ho, ?_⟩
  have st := Heap.SameBut.update s.heap D (Obj.mapSeq fun xs => have k' := if i < 0 then (i + (xs.size : Int)).toNat else min i.toNat xs.size; (xs.extract 0 k').push v ++ xs.extract k')
  refine hQ _ st.extBut ?_
  have q := PySem.IsL.update (n := m) ho (fun xs => have k' := if i < 0 then (i + (xs.size : Int)).toNat else min i.toNat xs.size; (xs.extract 0 k').push v ++ xs.extract k')
  have e1 : (have k' := if i < 0 then (i + (vs.toArray.size : Int)).toNat else min i.toNat vs.toArray.size; (vs.toArray.extract 0 k').push v ++ vs.toArray.extract k') = (vs.take k ++ v :: vs.drop k).toArray := by
    have e2 : (if i < 0 then (i + (vs.toArray.size : Int)).toNat else min i.toNat vs.toArray.size) = k := by
      rw [if_neg (by (walk_at "my om")), List.size_toArray, hl, hi, Int.toNat_natCast]; (walk_at "my om")
    simp only [e2]
    apply Array.toList_inj.mp
    simp
    rw [List.take_of_length_le (by simp)]
  simp only [e1] at q
  refine .mkLst ⟨_, q⟩ (reps_ins ?_ ?_)
  · refine aparts (M := [D]) (StillX.of st.extBut List.mem_cons_self) (fun p hp => ?_) r
    obtain ⟨i, _, rfl⟩ := List.mem_map.mp hp
    exact .flat trivial
  · exact Flat.rep (pv := .int x) trivial rv
/-- no value stands for this -/
noncomputable abbrev never : PV := .fresh noHeap .none
theorem rep_never {h : Heap} {v : Value} (r : Rep h never v) : False := by
  obtain ⟨⟨a, _, _, e, _⟩, e4⟩ := rep_fresh' r
  rw [rep_none e4] at e; cases e
/-- a call of a def that turns one list and falls off its end -/
theorem Call_defM {name qual : Str} {params : Arguments} {body : List Stmt} {scope : Scope} {dV kV doc pm cdv ct oc : Value} {an od : Option Addr} {osl : Array (Option Value)} {f : Addr} {vs : List Value} {names : List Str} {us : List Value} {all : List PV} {D : Addr} {xs : List PV} {hb : Heap} {s : Shared} {x : Str}
    {Q : Value → Shared → Prop} {E : Value → Shared → Prop}
    (g : Glo w hb) (e : Ext hb s.heap) (hD : hb.get? D = none) (rm : Rm A n) (hn : n ≤ 99)
    (ho : (kK w.params).lookup f = some ⟨oc, od, .func (fnOf name qual params body scope dV kV doc pm an cdv ct), osl⟩) (hcd : codeIn (kK w.params) cdv qual = true)
    (hbind : (kK w.params).In s.heap → BindsTo s (fnOf name qual params body scope dV kV doc pm an cdv ct) ⟨vs, []⟩ (names.zip us)) (rs : Reps s.heap all us)
    (hloc : (names.all fun x => decide (scope.names.lookup x = some .local)) = true)
    (hco : scope.isCoroutine = false) (hgen : scope.isGenerator = false) (hk : scope.kind = .function) (hcell : (scope.names.all fun x => x.2 != .cell) = true)
    (hrev : names.Nodup)
    (b : ∀ h₀ L, h₀.get? D = none → Ext hb h₀ → Blk w (A.deeper (envOf qual scope L f cdv)) (envOf qual scope L f cdv) (n + 1) h₀ false (names.zip all) body (fun ρ' => ρ'.lookup x = some (.lst D xs)) never)
    (hQ : ∀ s', Same s s' → Heap.ExtBut D s.heap s'.heap → Rep s'.heap (.lst D xs) (.ref D) → Q .none s') :
    wpAny (model PP w) A (call (.ref f) vs) Q E s := by
  have G := g.mono e
  have e₀ : Ext hb (hideAll s.heap [D]) := fun b o q => hideAll_get _ (e b o q) (fun m => by rw [List.mem_singleton] at m; subst m; rw [hD] at q; cases q)
  have hD₀ : (hideAll s.heap [D]).get? D = none := hideAll_none _ (List.mem_singleton.mpr rfl)
  have up₀ : Ext (hideAll s.heap [D]) s.heap := fun b o q => of_hideAll _ q
  refine wpAny_call ?_
  refine codeAny_call_def (fd := fnOf name qual params body scope dV kV doc pm an cdv ct) (body := body) (binds := names.zip us) (rm.room (by (walk_at "my om"))) (G.X _ _ ho) rfl G.L (codeRec_of G.X hcd) rfl (hbind G.X) ?_ ?_ (fun h₁ hns hk₁ => ?_) hco hgen hk
  · intro x hx
    have := List.all_eq_true.mp hcell x hx
    simpa using this
  · intro x hx
    have := List.all_eq_true.mp hloc x.1 (List.of_mem_zip hx).1
    exact of_decide_eq_true this
  · have F : Frm w (A.deeper (envOf qual scope s.heap.objs.size f cdv)) (envOf qual scope s.heap.objs.size f cdv) (n + 1) (hideAll s.heap [D]) (names.zip all) h₁ :=
      { rm := rm.deeper _, hn := by (walk_at "my om"), fn := hk, eg := rfl, eb := rfl, glo0 := g.mono e₀, ext := up₀.trans hk₁, above := by rw [hideAll_size]; exact Nat.le_refl _, ns := ⟨_, hns⟩,
        cells := fun x c e => (by cases e), apart := fun x y c e => (by cases e),
        look := fun x pv hx => by
          obtain ⟨v, r1, r2⟩ := repsLookup rs x pv hx
          refine ⟨v, Rep.mono hk₁ _ _ r1, .inl ⟨?_, _, hns, ?_⟩⟩
          · have hm := mem_of_lookup r2
            exact of_decide_eq_true (List.all_eq_true.mp hloc x (List.of_mem_zip hm).1)
          · rw [lookup_rev hrev]; exact r2 }
    refine wpAny_mono (b _ s.heap.objs.size hD₀ e₀ { s with heap := h₁, toks := s.toks + (names.zip us).length } F) (fun f s' p => ?_) fun _ _ x => x.elim
    obtain ⟨a, _, ⟨rfl, ρ', F', c⟩ | ⟨v, _, _, z⟩⟩ := p
    · obtain ⟨v, r, sl⟩ := F'.look _ _ c
      have := (rep_lst r).1
      subst this
      refine hQ s' (Same.trans ⟨_, _, rfl⟩ a) (fun b o hb q => ?_) r
      exact F'.ext b o (hideAll_get _ q (fun m => hb (List.mem_singleton.mp m)))
    · exact (rep_never z).elim
end
set_option maxHeartbeats 0
theorem bis_le (P : Nat → Bool) : ∀ (k lo hi : Nat), hi - lo ≤ k → lo ≤ hi → lo ≤ bis P lo hi ∧ bis P lo hi ≤ hi
  | 0, lo, hi, hk, hle => by
    rw [bis, if_neg (fun q => Nat.not_le.mpr q (Nat.le_of_sub_eq_zero (Nat.le_zero.mp hk)))]
    exact ⟨Nat.le_refl _, hle⟩
  | k + 1, lo, hi, hk, hle => by
    rw [bis]
    by_cases h : lo < hi
    · obtain ⟨m1, m2⟩ := mid_ok h
      rw [if_pos h]
      cases P ((lo + hi) / 2)
      · have q := bis_le P k ((lo + hi) / 2 + 1) hi (Nat.le_of_lt_succ (Nat.lt_of_lt_of_le (less_r m1 m2) hk)) m2
        exact ⟨Nat.le_trans (Nat.le_succ_of_le m1) q.1, q.2⟩
      · have q := bis_le P k lo ((lo + hi) / 2) (Nat.le_of_lt_succ (Nat.lt_of_lt_of_le (Nat.sub_lt_sub_right m1 m2) hk)) m1
        exact ⟨q.1, Nat.le_trans q.2 (Nat.le_of_lt m2)⟩
    · rw [if_neg h]; exact ⟨Nat.le_refl _, hle⟩
noncomputable def insR (ns : List Int) (x : Int) : List Int := insI ns (bis (fun i => decide (x < ns.getD i 0)) 0 ns.length) x
theorem insort_spec : ∀ {w : World} {A : Around} {hb : Heap} {n : Nat} {s : Shared} {D : Addr} {vs : List Value} {v : Value} {Q : Value → Shared → Prop} {E : Value → Shared → Prop} (g : Glo w hb) (e : Ext hb s.heap) (hD : hb.get? D = none) (rm : Rm A n) (hn : n ≤ 98) (ns : List Int) (hsz : ns.length < 1000000) (x : Int)
   (hr : Rep s.heap (.lst D (iL ns)) (.ref D)) (hv : Rep s.heap (.int x) v)
   (hQ : ∀ s', Same s s' → Heap.ExtBut D s.heap s'.heap → Rep s'.heap (.lst D (iL (insR ns x))) (.ref D) → Q .none s'),
   wpAny (model PP w) A (call (.ref 23) [.ref D, v]) Q E s := by
  have : (PySem.Challenge.rw_pg0232_01, kK) = (PySem.Challenge.rw_pg0232_01, kK) := rfl
  revert this
  k_fill
  intro _ w A hb n s D vs v Q E g e hD rm hn ns hsz x hr hv hQ
  obtain ⟨tv, hv'⟩ := rep_int hv
  refine' Call_defM (names := ["a", "x", "lo", "hi", "key"]) (x := "a") (us := [.ref D, v, ?u1z, ?u2z, ?u3z]) (all := [.lst D (iL ns), .int x, .int 0, .none, .none]) g e hD rm (by (walk_at "my om")) ?k1z ?k2z ?k3z ?k3bz ?k4z ?k5z ?k6z ?k7z ?k8z ?k9z ?k10z hQ
  case k1z => k_is
  case k2z => k_is
  case k3z =>
    intro X
    refine kp_binds X fun S => ?_
    exact rfl
  case k3bz => exact .cons hr (.cons hv (.cons (.mkInt _ _) (.cons .mkNone (.cons .mkNone .nil))))
  case k4z => with_unfolding_all exact rfl
  case k5z => rfl
  case k6z => rfl
  case k7z => rfl
  case k8z => with_unfolding_all exact rfl
  case k9z => decide
  case k10z =>
    intro h₀ L hD₀ k
    refine Bk_if (b := true) (fun h F => T_Compare (x := .none) (y := .none) (by walk_at "my ev") E_None (C_is_none isn_none) (by with_unfolding_all exact rfl)) (fun _ => ?_) (fun q => by cases q)
    refine Bk_assign (pv := .int (bis (fun i => decide (x < ns.getD i 0)) 0 ns.length : Nat)) (fun h F => ?_) (.inl (by with_unfolding_all exact rfl)) (by with_unfolding_all exact rfl) (Bk_nil ?_)
    · exact E_CallF F.sit (by with_unfolding_all exact rfl) (is_bisect_right _) (kp_32 _) (by decide) (A_cons (E_unlst (by walk_at "my ev")) (A_cons (by walk_at "my ev") (A_cons (by walk_at "my ev") (A_cons (by walk_at "my ev") A_nil (by with_unfolding_all exact rfl)) (by with_unfolding_all exact rfl)) (by with_unfolding_all exact rfl)) (by with_unfolding_all exact rfl)) (bisect_right4_spec F.sit.glo F.rm (by (walk_at "my om")) ns (by (walk_at "my om")) x) (by with_unfolding_all exact rfl) (by with_unfolding_all exact rfl)
    · intro s F
      refine wpAny_execs_cons (wpAny_Expr_any ?_)
      have hle := (bis_le (fun i => decide (x < ns.getD i 0)) ns.length 0 ns.length (by (walk_at "my om")) (by (walk_at "my om"))).2
      refine Meth_raw (x := .lst D (iL ns)) (T := "list") (id := "list.insert") (E_Name F.sit (by with_unfolding_all exact rfl) (by with_unfolding_all exact rfl) (by with_unfolding_all exact rfl)) (lst_type _ _) PySem.F.plainAttrs_list PySem.F.slot_list_insert PySem.F.type_list_insert (lst_dict _ _) (fun ov s₁ g₁ r₁ => ?_) rfl rfl rfl rfl rfl
      have F₁ := F.grow g₁.ext
      refine Ev.use (P := fun vs h' => Reps h' [.int (bis (fun i => decide (x < ns.getD i 0)) 0 ns.length : Nat), .int x] vs) (h := s₁.heap) (by walk_at "my args") (.refl _) fun ws s₂ g₂ r₂ => ?_
      obtain ⟨p, q, rfl, rp, rq⟩ := reps2 r₂
      obtain ⟨tp, rfl⟩ := rep_int rp
      obtain ⟨rfl, us, hp, rs⟩ := rep_lst (Rep.mono g₂.ext _ _ r₁)
      refine call_insert hp rs rq hle hsz fun h' kb hr' => ?_
      have F₃ := (F₁.grow g₂.ext).mutate (x := "a") (xs := iL ns) (ρ' := []) (by with_unfolding_all exact rfl) kb hD₀ hr' (fun q hq => by cases hq)
      refine wpAny_execs_nil ⟨(g₁.same.trans g₂.same).trans ⟨_, _, rfl⟩, (fun q => by cases q), .inl ⟨rfl, _, F₃, lookup_cons_eq⟩⟩
end
section
noncomputable def chS (c : Nat) : Str := ⟨#[c]⟩
noncomputable def sC (cs : List Nat) : List PV := cs.map fun c => PV.str (chS c)
theorem chS_eq {c d : Nat} : (chS c == chS d) = decide (c = d) := by
  rw [Bool.eq_iff_iff]
  unfold chS
  simp
theorem four_eq : ("4" : Str) = chS 52 := by decide +kernel
theorem stepE_len {signs spots : List Nat} {c : Nat} (h : spots.length ≤ signs.length + 1) : (stepE signs spots c).length ≤ signs.length + 1 := by
  unfold stepE
  split
  · cases spots with
    | nil => simp
    | cons s l => exact Nat.le_trans (List.length_filter_le _ _) (by simp)
  · rw [List.length_map]
    exact Nat.le_trans (List.length_filter_le _ _) h
theorem units_ok {A : Around} {n : Nat} (r : Rm A n) (hn : n ≤ 100) : A.units + 64 < cLine := by have := r.u; show A.units + 64 < 9900; (walk_at "my om")
theorem nats_eq {xs : List Nat} : decide ((xs.map fun (k : Nat) => (k : Int)) = []) = xs.isEmpty := by cases xs <;> rfl
noncomputable abbrev cN (h₀ : Heap) (signs spots : List Nat) : List (Str × PV) := [("spots", .fresh h₀ (.list (nL spots))), ("signs", .list (sC signs))]
set_option maxHeartbeats 0
theorem ends_spec : ∀ {w : World} {A : Around} {h : Heap} {n : Nat} (g : Glo w h) (rm : Rm A n) (hn : n ≤ 98) (pat signs : List Nat) (m : Nat) (hp : pat.length < 100000) (hs : signs.length < 100000),
   CallTo (w := w) A h (.ref 114) [.list (sC pat), .list (sC signs), .int (m : Int)] (.fresh h (.list (nL (endsOf signs pat m)))) := by
  have : (PySem.Challenge.rw_pg0232_01, kK) = (PySem.Challenge.rw_pg0232_01, kK) := rfl
  revert this
  k_fill
  intro _ w A h n g rm hn pat signs m hp hs
  have hsz : sizeLine = 16777216 := rfl
  refine' Call_defC (names := ["pattern", "signs", "start"]) g rm (by (walk_at "my om")) ?k1z ?k2z ?k3z ?k4z ?k5z ?k6z ?k7z ?k8z ?k9z
  case k1z => k_is
  case k2z => k_is
  case k3z => exact len3 (fun _ _ _ => rfl)
  case k4z => intro L; rfl
  case k5z => rfl
  case k6z => rfl
  case k7z => rfl
  case k8z => decide
  case k9z =>
    intro h₀ L k
    refine B_assign (pv := .fresh h₀ (.list [.int (m : Int)])) (fun h F => E_freshDown F.ext (E_ListF (pvs := [.int (m : Int)]) (by walk_at "my args") (Nat.le_of_ble_eq_true rfl))) (.inr ⟨by with_unfolding_all exact rfl, by with_unfolding_all exact rfl⟩) (by with_unfolding_all exact rfl) ?_
    refine Body.ofBlk (Bk_for (items := sC pat) (I := fun i ρ' => ∀ q ∈ cN h₀ signs ((pat.take i).foldl (stepE signs) [m]), ρ'.lookup q.1 = some q.2) (fun h F => by walk_at "my ev") (.inr ⟨by with_unfolding_all exact rfl, by with_unfolding_all exact rfl⟩) (by walk_at "my lk") ?_ ?_ (by with_unfolding_all exact fun _ => rfl) (by with_unfolding_all exact fun _ _ => rfl))
    · rintro i y ρ' hsub hy
      obtain ⟨c, hc, rfl⟩ : ∃ c, pat[i]? = some c ∧ y = .str (chS c) := by
        unfold sC at hy
        rw [List.getElem?_map] at hy
        cases q : pat[i]? with
        | none => rw [q] at hy; cases hy
        | some v => rw [q] at hy; cases hy; exact ⟨v, rfl, rfl⟩
      have hlen : ((pat.take i).foldl (stepE signs) [m]).length ≤ signs.length + 1 := by
        generalize pat.take i = l
        have : ∀ (l sp : List Nat), sp.length ≤ signs.length + 1 → (l.foldl (stepE signs) sp).length ≤ signs.length + 1 := by
          intro l
          induction l with
          | nil => intro sp h; exact h
          | cons a l ih => intro sp h; exact ih _ (stepE_len h)
        exact this l [m] (by simp)
      rw [List.take_add_one, hc, Option.toList_some, List.foldl_append, List.foldl_cons, List.foldl_nil]
      generalize (pat.take i).foldl (stepE signs) [m] = spots at *
      refine Bk_sub (ρ' := ("sign", .str (chS c)) :: cN h₀ signs spots) (sub_of (sub_cons (by with_unfolding_all exact rfl) hsub)) ?_
      clear hsub
      refine Bk_if (b := decide (c = 52)) (fun h F => TestTo.congr (T_Compare (x := .str (chS c)) (y := .str "4") (by walk_at "my ev") E_Str C_eq_str (by with_unfolding_all exact rfl)) (by rw [four_eq, chS_eq])) (fun hb => ?b1z) (fun hb => ?b0z)
      case b1z =>
        have hc52 := of_decide_eq_true hb
        refine Bk_assign (pv := .fresh h₀ (.list (nL (stepE signs spots c)))) (fun h F => ?_) (.inr ⟨by with_unfolding_all exact rfl, by with_unfolding_all exact rfl⟩) (by with_unfolding_all exact rfl) (Bk_nil (Bk_nil (by walk_at "my lk")))
        have hst : stepE signs spots c = (List.range (signs.length + 1)).filter (fun p => !spots.isEmpty && decide (spots.headD 0 ≤ p)) := by
          unfold stepE
          rw [if_pos hc52]
          cases spots with
          | nil => simp
          | cons s l => simp
        rw [hst]
        with_reducible refine' E_freshDown (Frm.ext F) (E_Comp (own := false) (cl := [("spots", L + 2)]) (ρ' := [("spots", .fresh h₀ (.list (nL spots)))]) (ns := List.range (signs.length + 1)) (P := fun (k : Nat) => PV.int (k : Int)) (q := fun p => !spots.isEmpty && decide (spots.headD 0 ≤ p)) (f := fun (k : Nat) => PV.int (k : Int)) F.sit ?c1 ?c2 ?c3 ?c4 ?c5 ?c6 ?c7 ?c8 ?c9 ?c10 ?c11)
        case c1 => with_unfolding_all exact rfl
        case c2 => exact .cons (by with_unfolding_all exact rfl) (by with_unfolding_all exact rfl) (by with_unfolding_all exact rfl) (by with_unfolding_all exact rfl) (.inl (by with_unfolding_all exact rfl)) (.inl (by with_unfolding_all exact rfl)) .nil
        case c3 =>
          refine IterTo.range F.sit (by with_unfolding_all exact rfl) (EvalsTo.congr (x := .int ((signs.length : Int) + 1)) ?_ rfl) (by (walk_at "my om")) (by with_unfolding_all exact rfl) rfl
          rw [show (signs.length : Int) = (((sC signs).length : Nat) : Int) by unfold sC; rw [List.length_map]]
          refine E_BinOp (E_CallB F.sit (by with_unfolding_all exact rfl) (no_len _) bt_len (.inl ⟨_, rfl⟩) (by decide) (by with_unfolding_all exact rfl) (by walk_at "my args") (K_len_list (by unfold sC; rw [List.length_map]; (walk_at "my om"))) (by with_unfolding_all exact rfl) (by with_unfolding_all exact rfl)) E_Int B_add_int
        case c4 => rw [List.length_range]; (walk_at "my om")
        case c5 => exact rfl
        case c6 => exact rfl
        case c7 => exact fun _ => rfl
        case c8 => exact fun _ => rfl
        case c9 => exact fun _ => rfl
        case c10 => exact fun _ => rfl
        case c11 =>
          intro a ha C h' e S'
          refine ⟨Tests.one ?_, fun _ => EltTo.flat trivial ?_⟩
          · refine T_And (TestTo.congr (T_Compare (x := .list (iL (spots.map fun (k : Nat) => (k : Int)))) (y := .list (iL [])) (by rw [← nL_eq]; exact E_unfresh (by walk_at "my ev")) (E_List A_nil (by decide)) (C_ne_ints (units_ok S'.rm S'.hn)) (by with_unfolding_all exact rfl)) (by rw [nats_eq])) (fun hq => ?_)
            cases spots with
            | nil => cases hq
            | cons s l =>
              refine TestTo.congr (T_Compare (x := .int (a : Int)) (y := .int (s : Int)) (by walk_at "my ev") (E_Item (x := .list (nL (s :: l))) (y := .int 0) (E_unfresh (by walk_at "my ev")) E_Int (G_list (by (walk_at "my om")) (by (walk_at "my om")) rfl)) C_ge_int (by with_unfolding_all exact rfl)) ?_
              rw [Bool.eq_iff_iff]; simp
          · walk_at "my ev"
      case b0z =>
        have hc52 := of_decide_eq_false hb
        refine Bk_assign (pv := .fresh h₀ (.list (nL (stepE signs spots c)))) (fun h F => ?_) (.inr ⟨by with_unfolding_all exact rfl, by with_unfolding_all exact rfl⟩) (by with_unfolding_all exact rfl) (Bk_nil (Bk_nil (by walk_at "my lk")))
        have hst : nL (stepE signs spots c) = (spots.filter (fun p => decide (p < signs.length) && decide (signs[p]? = some c))).map (fun (k : Nat) => PV.int ((k : Int) + 1)) := by
          unfold stepE nL
          rw [if_neg hc52, List.map_map]
          congr 1
          apply List.filter_congr
          intro p _
          rw [Bool.eq_iff_iff]
          simp only [Bool.and_eq_true, decide_eq_true_eq]
          constructor
          · intro q; exact ⟨(List.getElem?_eq_some_iff.mp q).1, q⟩
          · exact fun q => q.2
        rw [hst]
        with_reducible refine' E_freshDown (Frm.ext F) (E_Comp (own := false) (cl := [("signs", L + 1), ("sign", L + 3)]) (ρ' := [("sign", .str (chS c)), ("signs", .list (sC signs))]) (ns := spots) (P := fun (k : Nat) => PV.int (k : Int)) (q := fun p => decide (p < signs.length) && decide (signs[p]? = some c)) (f := fun (k : Nat) => PV.int ((k : Int) + 1)) F.sit ?c1 ?c2 ?c3 ?c4 ?c5 ?c6 ?c7 ?c8 ?c9 ?c10 ?c11)
        case c1 => with_unfolding_all exact rfl
        case c2 => exact .cons (by with_unfolding_all exact rfl) (by with_unfolding_all exact rfl) (by with_unfolding_all exact rfl) (by with_unfolding_all exact rfl) (.inl (by with_unfolding_all exact rfl)) (.inl (by with_unfolding_all exact rfl)) (.cons (by with_unfolding_all exact rfl) (by with_unfolding_all exact rfl) (by with_unfolding_all exact rfl) (by with_unfolding_all exact rfl) (.inl (by with_unfolding_all exact rfl)) (.inl (by with_unfolding_all exact rfl)) .nil)
        case c3 => exact .list (E_unfresh (by walk_at "my ev"))
        case c4 => (walk_at "my om")
        case c5 => exact rfl
        case c6 => exact rfl
        case c7 => exact fun _ => rfl
        case c8 => exact fun _ => rfl
        case c9 => exact fun _ => rfl
        case c10 => exact fun _ => rfl
        case c11 =>
          intro a ha C h' e S'
          refine ⟨Tests.one ?_, fun _ => EltTo.flat trivial ?_⟩
          · refine T_And (TestTo.congr (T_Compare (x := .int (a : Int)) (y := .int (((sC signs).length : Nat) : Int)) (by walk_at "my ev") (E_CallB S' (by with_unfolding_all exact rfl) (no_len _) bt_len (.inl ⟨_, rfl⟩) (by decide) (by with_unfolding_all exact rfl) (by walk_at "my args") (K_len_list (by unfold sC; rw [List.length_map]; (walk_at "my om"))) (by with_unfolding_all exact rfl) (by with_unfolding_all exact rfl)) C_lt_int (by with_unfolding_all exact rfl)) (by unfold sC; rw [List.length_map, Bool.eq_iff_iff]; simp)) (fun hq => ?_)
            have hlt := of_decide_eq_true hq
            refine TestTo.congr (T_Compare (x := .str (chS signs[a])) (y := .str (chS c)) (E_Item (x := .list (sC signs)) (y := .int (a : Int)) (by walk_at "my ev") (by walk_at "my ev") (G_list (by (walk_at "my om")) (by (walk_at "my om")) ?_)) (by walk_at "my ev") C_eq_str (by with_unfolding_all exact rfl)) ?_
            · unfold sC
              rw [Int.toNat_natCast, List.getElem?_map, List.getElem?_eq_getElem hlt]; rfl
            · rw [chS_eq, List.getElem?_eq_getElem hlt, Bool.eq_iff_iff]; simp
          · exact E_BinOp (by walk_at "my ev") E_Int B_add_int
    · rintro ρ' hsub
      refine Bk_sub (sub_of hsub) ?_
      rw [show (sC pat).length = pat.length by unfold sC; rw [List.length_map], List.take_length]
      exact Bk_ret (fun h F => E_freshDown k (by walk_at "my ev"))
end
section
section
variable {w : World} {A : Around} {env : Env} {n : Nat} {h₀ h : Heap} {ρ : List (Str × PV)}
noncomputable def KeepX (M : List Addr) (h h' : Heap) : Prop := ∀ b o, b ∉ M → h.get? b = some o → (∀ es ep, o.data ≠ .dict es ep) → (∀ v, o.data ≠ .cell v) → h'.get? b = some o
theorem KeepX.refl (M : List Addr) (h : Heap) : KeepX M h h := fun _ _ _ e _ _ => e
theorem KeepX.trans {M : List Addr} {a b c : Heap} (x : KeepX M a b) (y : KeepX M b c) : KeepX M a c := fun i o m e d k => y i o m (x i o m e d k) d k
theorem Keep.x {M : List Addr} {h h' : Heap} (k : Keep h h') : KeepX M h h' := fun b o _ e d c => k b o e d c
theorem KeepX.of {M : List Addr} {a : Addr} {h h' : Heap} (k : Heap.ExtBut a h h') (m : a ∈ M) : KeepX M h h' := fun b o nb e _ _ => k b o (fun q => nb (q ▸ m)) e
theorem KeepX.still {M : List Addr} {h h' : Heap} (k : KeepX M h h') : StillX M h h' := fun b o xs n m e q => k b o m e (fun es ep z => by rw [q] at z; cases z) (fun v z => by rw [q] at z; cases z)
/-- the tables of nested codes may grow; what they hold are codes -/
noncomputable def lamQ : Str := "law.<locals>.<lambda>"
noncomputable def Tabs (T : List Addr) (h : Heap) : Prop := ∀ P ∈ T, ∃ ps : Array Value, h.get? P = some (PySem.W.tabObj ps) ∧ TriplesOk ps.toList ∧ ∀ pos cv, codeAmong pos ps.toList = some cv → h.CodeRec cv lamQ
theorem Tabs.nil (h : Heap) : Tabs [] h := fun _ hp => by cases hp
theorem triples_notIter {ps : Array Value} (t : TriplesOk ps.toList) (l i : Value) : ps ≠ #[l, i] := fun q => by
  subst q
  cases l <;> cases i <;> exact t.elim
theorem Tabs.imp {T : List Addr} {h h' : Heap} (t : Tabs T h) (k : ∀ b o vs, h.get? b = some o → o.data = .fields vs → (∀ l i z, vs ≠ #[l, Value.int i z]) → h'.get? b = some o) : Tabs T h' := fun P hP => by
  obtain ⟨ps, e, r, c⟩ := t P hP
  refine ⟨ps, k _ _ ps e rfl (fun l i z => triples_notIter r l _), r, fun pos cv q => ?_⟩
  obtain ⟨c', o, vs, u, e1, e2, e3, e4⟩ := c pos cv q
  refine ⟨c', o, vs, u, e1, k _ _ vs e2 e3 (fun l i z q => ?_), e3, e4⟩
  subst q
  cases e4
theorem Tabs.keep {T : List Addr} {h h' : Heap} (t : Tabs T h) (k : Keep h h') : Tabs T h' := t.imp fun b o vs e d _ => k _ _ e (fun es ep q => by rw [d] at q; cases q) (fun v q => by rw [d] at q; cases q)
theorem Tabs.ext {T : List Addr} {h h' : Heap} (t : Tabs T h) (k : Ext h h') : Tabs T h' := t.keep k.keep
theorem Tabs.but {T : List Addr} {h h' : Heap} {a : Addr} {items : Array Value} (t : Tabs T h) (k : Heap.ExtBut a h h') (hp : h.PlainList a items) : Tabs T h' := t.imp fun b o vs e d _ => k b o (fun q => by
  subst q
  obtain ⟨m, e'⟩ := hp
  rw [e] at e'; cases e'; cases d) e
theorem Tabs.iter {T : List Addr} {h h' : Heap} {it l : Addr} {i : Nat} (t : Tabs T h) (k : Heap.ExtBut it h h') (hit : h.IsListIter it l i) : Tabs T h' := t.imp fun b o vs e d ni => k b o (fun q => by
  subst q
  obtain ⟨o', e', _, d'⟩ := hit
  rw [e] at e'; cases e'
  rw [d'] at d; cases d
  exact ni _ _ _ rfl) e

noncomputable def TurnPost (w : World) (A : Around) (env : Env) (n : Nat) (h₀ : Heap) (M T : List Addr) (C : List (Str × PV) → Prop) (s : Shared) (f : Flow) (s' : Shared) : Prop :=
  f = .next ∧ Same s s' ∧ KeepX M s.heap s'.heap ∧ Tabs T s'.heap ∧ ∃ ρ', Frm w A env n h₀ ρ' s'.heap ∧ C ρ'
noncomputable def Turn (w : World) (A : Around) (env : Env) (n : Nat) (h₀ : Heap) (M T : List Addr) (ρ : List (Str × PV)) (stmts : List Stmt) (C : List (Str × PV) → Prop) : Prop :=
  ∀ s : Shared, Frm w A env n h₀ ρ s.heap → Tabs T s.heap → wpAny (model PP w) A (execs stmts env) (TurnPost w A env n h₀ M T C s) (fun _ _ => False) s
theorem TurnPost.pre {M T : List Addr} {C : List (Str × PV) → Prop} {s s₁ s' : Shared} {f : Flow} (g : Same s s₁) (k : KeepX M s.heap s₁.heap) (p : TurnPost w A env n h₀ M T C s₁ f s') : TurnPost w A env n h₀ M T C s f s' :=
  ⟨p.1, g.trans p.2.1, k.trans p.2.2.1, p.2.2.2⟩
theorem Turn.from {M T : List Addr} {stmts : List Stmt} {C : List (Str × PV) → Prop} {s s₁ : Shared} (b : Turn w A env n h₀ M T ρ stmts C) (F : Frm w A env n h₀ ρ s₁.heap) (t : Tabs T s₁.heap) (g : Same s s₁) (k : KeepX M s.heap s₁.heap) :
    wpAny (model PP w) A (execs stmts env) (TurnPost w A env n h₀ M T C s) (fun _ _ => False) s₁ :=
  wpAny_mono (b s₁ F t) (fun _ _ p => p.pre g k) fun _ _ x => x
theorem Tn_nil {M T : List Addr} {C : List (Str × PV) → Prop} (c : C ρ) : Turn w A env n h₀ M T ρ [] C := fun s F t => wpAny_execs_nil ⟨rfl, .refl s, .refl _ _, t, ρ, F, c⟩
theorem Tn_sub {M T : List Addr} {C : List (Str × PV) → Prop} {stmts : List Stmt} {ρ' : List (Str × PV)} (k : ∀ q ∈ ρ', ρ.lookup q.1 = some q.2) (b : Turn w A env n h₀ M T ρ' stmts C) : Turn w A env n h₀ M T ρ stmts C := fun s F t => b s (F.sub (sub_of k)) t
theorem Tn_step {M T : List Addr} {C : List (Str × PV) → Prop} {st : Stmt} {more : List Stmt}
    (b : ∀ s : Shared, Frm w A env n h₀ ρ s.heap → Tabs T s.heap → wpAny (model PP w) A (exec st env) (fun f s' => f = .next ∧ Same s s' ∧ KeepX M s.heap s'.heap ∧ Tabs T s'.heap ∧ ∃ ρ', Frm w A env n h₀ ρ' s'.heap ∧ Turn w A env n h₀ M T ρ' more C) (fun _ _ => False) s) :
    Turn w A env n h₀ M T ρ (st :: more) C := by
  intro s F t
  refine wpAny_execs_cons (wpAny_mono (b s F t) (fun f s' p => ?_) fun _ _ x => x)
  obtain ⟨rfl, g, k, t', ρ', F', c⟩ := p
  exact c.from F' t' g k
/-- for x in a list, while other lists turn -/
theorem for_M {M T : List Addr} {x : Str} {px pos : Pos} {iter : PySem.Expr} {body more : List Stmt} {items : List PV} {pv : PV} (I : Nat → List (Str × PV) → Prop) {s : Shared} {Q : Flow → Shared → Prop}
    (F : Frm w A env n h₀ ρ s.heap) (t : Tabs T s.heap)
    (he : EvalsTo w A env s.heap iter pv) (hpv : Apart M pv) (hL : ∀ h v, Rep h pv v → Rep h (.list items) v) (hk : Storable env x) (i₀ : I 0 ρ) (hM : ∀ a ∈ M, s.heap.get? a ≠ none)
    (turn : ∀ i y ρ', I i ρ' → items[i]? = some y → Turn w A env n h₀ M T ((x, y) :: ρ') body (fun ρ'' => I (i + 1) ρ''))
    (fin : ∀ s' ρ', Same s s' → KeepX M s.heap s'.heap → Tabs T s'.heap → Frm w A env n h₀ ρ' s'.heap → I items.length ρ' → wpAny (model PP w) A (execs more env) Q (fun _ _ => False) s')
    (hs : ∀ x, foldedSetIterable iter env x = pure x) (hgo : ∀ it v, letOwnedTupleGo (.Name x px) it v = pure ()) : wpAny (model PP w) A (execs (.For (.Name x px) iter body [] pos :: more) env) Q (fun _ _ => False) s := by
  refine wpAny_execs_cons (wpAny_For (he.use (.refl _) fun v s₁ g₁ p₁ => ?_) hs)
  have F₁ := F.grow g₁.ext
  have hrl := hL _ _ p₁
  obtain ⟨l, vs, rfl, hl, hr⟩ := rep_list hrl
  refine wpAny_pyIter_list hl ?_
  have hsz : h₀.objs.size ≤ s₁.heap.objs.size := by
    obtain ⟨m, hm⟩ := F₁.ns
    exact Nat.le_trans F₁.above (Nat.le_of_lt hm.lt)
  have kpush : Ext s₁.heap (s₁.heap.push { cls := .type "list_iterator", data := .fields #[.ref l, .int 0 0] }) := Ext.push _ _
  have F₂ := F₁.grow kpush
  have hMlt : ∀ a ∈ M, @LT.lt Nat _ a s₁.heap.objs.size := fun a ha => by
    cases q : s.heap.get? a with
    | none => exact absurd q (hM a ha)
    | some o => exact Heap.lt_size (g₁.ext _ _ q)
  have hItM : s₁.heap.objs.size ∉ M := fun q => Nat.lt_irrefl _ (hMlt _ q)
  refine codeAny_mono (codeAny_forLoop (R := fun res s' => match res with
      | .ok .next => ∃ ρ', Same s s' ∧ KeepX M s.heap s'.heap ∧ Tabs T s'.heap ∧ Frm w A env n h₀ ρ' s'.heap ∧ I items.length ρ'
      | _ => False)
    (fun m s' => ∃ i ρ', m = items.length - i ∧ i ≤ items.length ∧ Same s s' ∧ KeepX M s₁.heap s'.heap ∧ Tabs T s'.heap ∧ Frm w A env n h₀ ρ' s'.heap ∧ I i ρ' ∧ s'.heap.IsListIter s₁.heap.objs.size l i ∧ Rep s'.heap pv (.ref l)) ?_ items.length
    ⟨0, ρ, rfl, Nat.zero_le _, g₁.same.trans ⟨_, _, rfl⟩, kpush.keep.x, (t.ext g₁.ext).ext kpush, F₂, i₀, ⟨_, Heap.get?_push_size _ rfl, rfl, rfl⟩, Rep.mono kpush _ _ p₁⟩ (hgo _)) ?_
  · rintro m s' ⟨i, ρ', rfl, hI⟩
    refine and8 hI fun hi g k t' F' ii hit rep' => ?_
    clear hI
    have hfields : ∃ o vs, s'.heap.get? s₁.heap.objs.size = some o ∧ o.data = .fields vs := let ⟨o, e, _, d⟩ := hit; ⟨o, _, e, d⟩
    obtain ⟨l', vs', q, hl', hr'⟩ := rep_list (hL _ _ rep')
    cases q
    rcases Nat.lt_or_ge i items.length with hlt | hge
    · have hy : items[i]? = some items[i] := List.getElem?_eq_getElem hlt
      obtain ⟨u, hu, ru⟩ := hr'.get i _ hy
      refine wpAny_pyNext_list_item hit hl' (by simpa using hu) fun h₂ hit₂ hs₂ => ?_
      have F₃ : Frm w A env n h₀ ρ' h₂ := F'.iterBut hs₂.extBut hfields hsz
      have st₂ : Still s'.heap h₂ := Still.sameBut hs₂ (fun o xs q e d => by obtain ⟨o', fs, e', d'⟩ := hfields; rw [e] at e'; cases e'; rw [d] at d'; cases d')
      have t₂ : Tabs T h₂ := t'.iter hs₂.extBut hit
      show wpAny _ _ (assign (.Name x px) env u) _ _ _
      show wpAny _ _ (standAt px >>= fun _ => bindName env x u) _ _ _
      refine wpAny_bind (wpAny_standAt (wpAny_bindName ?_))
      refine Frm.store (s := { s' with heap := h₂ }) F₃ (Rep.still st₂ _ _ ru) hk fun h₃ tk F₄ st₃ k₃ => ?_
      refine wpAny_mono (turn i _ ρ' ii hy { s' with heap := h₃, toks := tk } F₄ (t₂.keep k₃)) (fun f s₅ p => ?_) fun _ _ x => x.elim
      obtain ⟨rfl, a, k₅, t₅, ρ₂, F₅, i'⟩ := p
      have kk : KeepX M s₁.heap s₅.heap := fun b o nb e d c => by
        have hb : b ≠ s₁.heap.objs.size := Nat.ne_of_lt (Heap.lt_size e)
        exact k₅ b o nb (k₃ b o (hs₂.extBut b o hb (k b o nb e d c)) d c) d c
      have gg : Same s s₅ := g.trans (Same.trans ⟨_, _, rfl⟩ a)
      have kit : KeepX M h₂ s₅.heap := (Keep.x k₃).trans k₅
      refine ⟨items.length - (i + 1), Nat.sub_lt_sub_left hlt (Nat.lt_succ_self i), i + 1, ρ₂, rfl, hlt, gg, kk, t₅, F₅, i', ?_, ?_⟩
      · obtain ⟨o, e, c, d⟩ := hit₂
        exact ⟨o, kit _ o hItM e (fun es ep q => by rw [d] at q; cases q) (fun v q => by rw [d] at q; cases q), c, d⟩
      · exact hpv _ _ _ kit.still (Rep.still st₂ _ _ rep')
    · have hi' : i = items.length := Nat.le_antisymm hi hge
      subst hi'
      refine wpAny_pyNext_list_end F.rm.h hit hl' (by rw [List.getElem?_toArray]; exact List.getElem?_eq_none (by rw [hr'.length]; exact Nat.le_refl _)) fun h₂ hs₂ => ?_
      refine wpAny_execs_nil ?_
      have F₃ : Frm w A env n h₀ ρ' h₂ := F'.iterBut hs₂ hfields hsz
      refine ⟨ρ', g.trans ⟨_, _, rfl⟩, fun b o nb e d c => ?_, t'.iter hs₂ hit, F₃, ii⟩
      have e₁ := g₁.ext b o e
      exact hs₂ b o (Nat.ne_of_lt (Heap.lt_size e₁)) (k b o nb e₁ d c)
  · intro res s' h
    cases res with
    | error e => exact h.elim
    | ok f =>
      cases f with
      | next =>
        obtain ⟨ρ', g, k, t', F', i⟩ := h
        exact fin s' ρ' g k t' F' i
      | brk => exact h.elim
      | cont => exact h.elim
      | ret v => exact h.elim
theorem B_forM {M : List Addr} {x : Str} {px pos : Pos} {iter : PySem.Expr} {body more : List Stmt} {items : List PV} {pv r : PV} (I : Nat → List (Str × PV) → Prop)
    (he : ∀ h, Frm w A env n h₀ ρ h → EvalsTo w A env h iter pv) (hpv : Apart M pv) (hL : ∀ h v, Rep h pv v → Rep h (.list items) v) (hk : Storable env x) (i₀ : I 0 ρ) (hM : ∀ a ∈ M, ∀ h, Frm w A env n h₀ ρ h → h.get? a ≠ none)
    (turn : ∀ i y ρ', I i ρ' → items[i]? = some y → Turn w A env n h₀ M [] ((x, y) :: ρ') body (fun ρ'' => I (i + 1) ρ''))
    (fin : ∀ ρ', I items.length ρ' → Body w A env n h₀ ρ' more r)
    (hs : ∀ x, foldedSetIterable iter env x = pure x) (hgo : ∀ it v, letOwnedTupleGo (.Name x px) it v = pure ()) : Body w A env n h₀ ρ (.For (.Name x px) iter body [] pos :: more) r := fun s F =>
  for_M (M := M) (T := []) I F (.nil _) (he _ F) hpv hL hk i₀ (fun a ha => hM a ha _ F) turn (fun s' ρ' g _ _ F' i => (fin ρ' i).after F' g) hs hgo
theorem Frm.there {x : Str} {a : Addr} {xs : List PV} (F : Frm w A env n h₀ ρ h) (hx : ρ.lookup x = some (.lst a xs)) : h.get? a ≠ none := by
  obtain ⟨v, r, _⟩ := F.look x _ hx
  obtain ⟨rfl, vs, ⟨m, hp⟩, _⟩ := rep_lst r
  rw [hp]; nofun

noncomputable def oldR (hb : Heap) (ρ : List (Str × PV)) : List (Str × PV) := ρ.map fun q => (q.1, .old hb q.2)
theorem oldR_look {hb : Heap} : ∀ {ρ : List (Str × PV)} {x : Str} {pv : PV}, (oldR hb ρ).lookup x = some pv → ∃ p, pv = .old hb p ∧ ρ.lookup x = some p
  | [], x, pv, e => by cases e
  | (y, p) :: ρ, x, pv, e => by
    simp only [oldR, List.map_cons] at e
    rw [List.lookup_cons] at e ⊢
    cases h : x == y with
    | true => rw [h] at e; cases e; exact ⟨p, rfl, rfl⟩
    | false => rw [h] at e; exact oldR_look e
theorem Frm.old (F : Frm w A env n h₀ ρ h) : Frm w A env n h₀ (oldR h ρ) h := by
  refine { F with look := fun x pv e => ?_ }
  obtain ⟨p, rfl, e'⟩ := oldR_look e
  obtain ⟨v, r, sl⟩ := F.look x p e'
  refine ⟨v, ?_, sl⟩
  simp only [Rep]
  exact ⟨.refl _, r⟩
/-- x = [] : a new list; what stood before is old -/
theorem step_newList {x : Str} {p pos' pos : Pos} {s : Shared} {Q : Flow → Shared → Prop} {E : Value → Shared → Prop} (F : Frm w A env n h₀ ρ s.heap) (hk : Storable env x) (hs : swapsWith (.List [] p) (some (.Name x pos')) pos.line env = pure false)
    (h : ∀ a s', s.heap.get? a = none → h₀.get? a = none → Same s s' → Keep s.heap s'.heap → Frm w A env n h₀ ((x, .lst a []) :: oldR s.heap ρ) s'.heap → Q .next s') : wpAny (model PP w) A (exec (.Assign [.Name x pos'] (.List [] p) pos) env) Q E s := by
  refine wpAny_Assign_Name ((E_ListF (w := w) (A := A) (env := env) (h := s.heap) (es := []) (pos := p) A_nil (by decide)).use (.refl _) fun v s₁ g₁ p₁ => ?_) hs
  obtain ⟨a, ha, r⟩ := Rep.ofFresh p₁
  refine (F.old.grow g₁.ext).store r hk fun h' tk F' _ k => ?_
  exact h a _ ha (none_back F.ext ha) (g₁.same.trans ⟨_, _, rfl⟩) (g₁.ext.keep.trans k) F'
theorem B_newList {x : Str} {p pos' pos : Pos} {rest : List Stmt} {r : PV} (hk : Storable env x) (hs : swapsWith (.List [] p) (some (.Name x pos')) pos.line env = pure false)
    (b : ∀ hb a, hb.get? a = none → h₀.get? a = none → Body w A env n h₀ ((x, .lst a []) :: oldR hb ρ) rest r) : Body w A env n h₀ ρ (.Assign [.Name x pos'] (.List [] p) pos :: rest) r := fun s F =>
  wpAny_execs_cons (step_newList F hk hs fun a s' h1 h2 g k F' => (b _ a h1 h2).after F' g)
end
end
section
section
variable {w : World} {A : Around} {env : Env} {n : Nat} {h₀ h : Heap} {ρ : List (Str × PV)}
noncomputable def ptI (x : Int) : List Int := [x % 64, x / 64 % 9, x / 576 % 4 + 1]
noncomputable def otI (x : Int) : List Int := [(x % 64 + x / 36864) % 64, x / 36864 / 64 % 9, x / 576 % 4 + 1]
noncomputable def patI (x : Int) : List (List Int) :=
  if x / 9216 % 4 = 0 then [ptI x] else if x / 9216 % 4 = 1 then [[0, 0, 4]] else if x / 9216 % 4 = 2 then [[0, 0, 4], ptI x] else if x / 36864 % 2 = 1 then [otI x] else []
noncomputable def patsI (xs : List Int) : List (List Int) := xs.flatMap patI
theorem patI_len (x : Int) : (patI x).length ≤ 2 := by unfold patI; repeat (first | split | simp)
theorem patsI_len : ∀ (xs : List Int), (patsI xs).length ≤ 2 * xs.length
  | [] => by simp [patsI]
  | x :: r => by
    have := patsI_len r
    have := patI_len x
    unfold patsI at *
    rw [List.flatMap_cons, List.length_append, List.length_cons]
    (walk_at "my om")
noncomputable def ptL (ps : List (List Int)) : List PV := ps.map fun p => PV.list (iL p)
noncomputable def pL (bs : List (Addr × List Int)) : List PV := bs.map fun q => PV.lst q.1 (iL q.2)
theorem reps_unlst {h : Heap} : ∀ {bs : List (Addr × List Int)} {vs : List Value}, Reps h (pL bs) vs → Reps h (ptL (bs.map (·.2))) vs
  | [], vs, r => by simpa only [pL, ptL, List.map_nil] using r
  | b :: bs, vs, r => by
    simp only [pL, List.map_cons, Reps] at r
    obtain ⟨v, q, rfl, r1, r2⟩ := r
    exact .cons r1.unlst (reps_unlst r2)
inductive Pts (a : Addr) (hb : Heap) : List PV → List (List Int) → Prop
  | nil : Pts a hb [] []
  | lst {b : Addr} {p : List Int} {qs : List PV} {ps : List (List Int)} : b ≠ a → Pts a hb qs ps → Pts a hb (.lst b (iL p) :: qs) (p :: ps)
  | fresh {p : List Int} {qs : List PV} {ps : List (List Int)} : Pts a hb qs ps → Pts a hb (.fresh hb (.list (iL p)) :: qs) (p :: ps)
theorem Pts.open {a : Addr} {hb h : Heap} (ha : hb.get? a ≠ none) {qs : List PV} {ps : List (List Int)} (k : Pts a hb qs ps) : ∀ {us : List Value}, Reps h qs us → ∃ bs : List (Addr × List Int), bs.map (·.2) = ps ∧ (∀ q ∈ bs, q.1 ≠ a) ∧ Reps h (pL bs) us := by
  induction k with
  | nil => intro us r; exact ⟨[], rfl, (fun q hq => by cases hq), r⟩
  | lst nb _ ih =>
    intro us r
    simp only [Reps] at r
    obtain ⟨v, us', rfl, r1, r2⟩ := r
    obtain ⟨bs, e1, e2, e3⟩ := ih r2
    refine ⟨(_, _) :: bs, by rw [List.map_cons, e1], fun q hq => ?_, .cons r1 e3⟩
    rcases List.mem_cons.mp hq with rfl | hq
    · exact nb
    · exact e2 q hq
  | fresh _ ih =>
    intro us r
    simp only [Reps] at r
    obtain ⟨v, us', rfl, r1, r2⟩ := r
    obtain ⟨bs, e1, e2, e3⟩ := ih r2
    obtain ⟨c, hc, r'⟩ := Rep.ofFresh r1
    refine ⟨(c, _) :: bs, by rw [List.map_cons, e1], fun q hq => ?_, .cons r' e3⟩
    rcases List.mem_cons.mp hq with rfl | hq
    · rintro rfl; exact ha hc
    · exact e2 q hq
theorem iL_apart {M : List Addr} {xs : List Int} : ∀ p ∈ iL xs, Apart M p := fun p hp => by
  obtain ⟨x, _, rfl⟩ := List.mem_map.mp hp
  exact .flat trivial
theorem pL_apart {a : Addr} {bs : List (Addr × List Int)} (k : ∀ q ∈ bs, q.1 ≠ a) : ∀ p ∈ pL bs, Apart [a] p := fun p hp => by
  obtain ⟨q, hq, rfl⟩ := List.mem_map.mp hp
  exact .lst (by simpa using k q hq) iL_apart
theorem call_extend {D c : Addr} {bs cs : List (Addr × List Int)} {vs us : List Value} {s : Shared} {Q : Value → Shared → Prop} {E : Value → Shared → Prop} (hp : s.heap.PlainList D vs.toArray) (r : Reps s.heap (pL bs) vs) (hc : s.heap.PlainList c us.toArray) (rc : Reps s.heap (pL cs) us)
    (hb : ∀ q ∈ bs, q.1 ≠ D) (hcs : ∀ q ∈ cs, q.1 ≠ D) (hsz : bs.length + cs.length < 1000000) (hQ : ∀ h', Heap.ExtBut D s.heap h' → Rep h' (.lst D (pL (bs ++ cs))) (.ref D) → Q .none { s with heap := h' }) :
    wpAny (model PP w) A (call (.builtin "list.extend") [.ref D, .ref c]) Q E s := by
  obtain ⟨m, ho⟩ := hp
  obtain ⟨m2, hc⟩ := hc
  have hl : vs.length = bs.length := by rw [r.length]; unfold pL; rw [List.length_map]
  have hl2 : us.length = cs.length := by rw [rc.length]; unfold pL; rw [List.length_map]
  have hz0 : sizeLine = 16777216 := rfl
  have hz2 : vs.toArray.size + us.toArray.size ≤ sizeLine := by rw [List.size_toArray, List.size_toArray, hl, hl2]; (walk_at "my om")
  have M := PySem.AutoSeq1.list_extend_list_list_0 D vs.toArray m c us.toArray m2 (extend_door hz2) (by (walk_at "my om")) (by (walk_at "my om"))
  refine call_meets PySem.F.slot_list_extend ⟨_, ho, rfl⟩ PySem.F.entry_list_extend (PySem.F.args_list_extend_2 _ _) M ⟨ho, hc, ?_⟩
  have st := Heap.SameBut.update s.heap D (Obj.mapSeq fun x => x ++ us.toArray)
  refine hQ _ st.extBut ?_
  have q := PySem.IsL.update (n := m) ho (fun x => x ++ us.toArray)
  have e1 : vs.toArray ++ us.toArray = (vs ++ us).toArray := by simp
  simp only [e1] at q
  refine .mkLst ⟨_, q⟩ ?_
  have e2 : pL (bs ++ cs) = pL bs ++ pL cs := by unfold pL; rw [List.map_append]
  rw [e2]
  exact (aparts (M := [D]) (StillX.of st.extBut List.mem_cons_self) (pL_apart hb) r).append (aparts (M := [D]) (StillX.of st.extBut List.mem_cons_self) (pL_apart hcs) rc)
/-- x = e for a list that is new -/
theorem Tn_assignF {M T : List Addr} {C : List (Str × PV) → Prop} {x : Str} {e : PySem.Expr} {pos pos' : Pos} {more : List Stmt} {xs : List PV} (he : ∀ h, Frm w A env n h₀ ρ h → EvalsTo w A env h e (.fresh h (.list xs)))
    (hk : Storable env x) (hs : swapsWith e (some (.Name x pos')) pos.line env = pure false)
    (b : ∀ c, (∀ y a ys, ρ.lookup y = some (.lst a ys) → c ≠ a) → Turn w A env n h₀ M T ((x, .lst c xs) :: ρ) more C) : Turn w A env n h₀ M T ρ (.Assign [.Name x pos'] e pos :: more) C := by
  intro s F t
  refine wpAny_execs_cons (wpAny_Assign_Name ((he _ F).use (.refl _) fun v s₁ g₁ p₁ => ?_) hs)
  obtain ⟨c, hc, r⟩ := Rep.ofFresh p₁
  refine (F.grow g₁.ext).store r hk fun h' tk F' _ k => ?_
  refine (b c fun y a ys hy => ?_).from F' ((t.ext g₁.ext).keep k) (g₁.same.trans ⟨_, _, rfl⟩) (g₁.ext.keep.trans k).x
  rintro rfl
  exact F.there hy hc
end
set_option maxHeartbeats 0
theorem pointF_spec : ∀ {w : World} {A : Around} {h : Heap} {n : Nat} (g : Glo w h) (rm : Rm A n) (hn : n ≤ 99) (x : Int),
   CallTo (w := w) A h (.ref 102) [.int x] (.fresh h (.list (iL (ptI x)))) := by
  have : (PySem.Challenge.rw_pg0232_01, kK) = (PySem.Challenge.rw_pg0232_01, kK) := rfl
  revert this
  k_fill
  intro _ w A h n g rm hn x
  refine' Call_def (names := ["x"]) g rm hn ?k1z ?k2z ?k3z ?k4z ?k5z ?k6z ?k7z ?k8z ?k9z ?k10z
  case k1z => k_is
  case k2z => k_is
  case k3z => exact len1 (fun _ => rfl)
  case k4z => rfl
  case k5z => rfl
  case k6z => rfl
  case k7z => rfl
  case k8z => rfl
  case k9z => decide
  case k10z =>
    intro h₀ L k
    refine B_return fun h F => E_freshDown (k.trans F.ext) (E_ListF (pvs := [.int (x % 64), .int (x / 64 % 9), .int (x / 576 % 4 + 1)]) (by walk_at "my args") (Nat.le_of_ble_eq_true rfl))
theorem pattern_spec : ∀ {w : World} {A : Around} {h : Heap} {n : Nat} (g : Glo w h) (rm : Rm A n) (hn : n ≤ 98) (ns : List Int) (hsz : ns.length < 100000),
   CallTo (w := w) A h (.ref 109) [.list (iL ns)] (.list (ptL (patsI ns))) := by
  have : (PySem.Challenge.rw_pg0232_01, kK) = (PySem.Challenge.rw_pg0232_01, kK) := rfl
  revert this
  k_fill
  intro _ w A h n g rm hn ns hsz
  refine' Call_def (names := ["numbers"]) g rm (by (walk_at "my om")) ?k1z ?k2z ?k3z ?k4z ?k5z ?k6z ?k7z ?k8z ?k9z ?k10z
  case k1z => k_is
  case k2z => k_is
  case k3z => exact len1 (fun _ => rfl)
  case k4z => rfl
  case k5z => rfl
  case k6z => rfl
  case k7z => rfl
  case k8z => rfl
  case k9z => decide
  case k10z =>
    intro h₀ L k
    refine B_newList (.inl (by with_unfolding_all exact rfl)) (by with_unfolding_all exact rfl) fun hb a hba h0a => ?_
    refine B_forM (M := [a]) (items := iL ns) (pv := .old hb (.list (iL ns))) (fun i ρ' => ∃ bs : List (Addr × List Int), (∀ q ∈ bs, q.1 ≠ a) ∧ bs.map (·.2) = patsI (ns.take i) ∧ ∀ q ∈ [(("points" : Str), PV.lst a (pL bs)), ("numbers", .old hb (.list (iL ns)))], ρ'.lookup q.1 = some q.2)
      (fun h F => by walk_at "my ev") (.old fun b hb' => by rw [List.mem_singleton] at hb'; subst hb'; exact hba) (fun h v r => r.unold) (.inl (by with_unfolding_all exact rfl)) ⟨[], (fun q hq => by cases hq), rfl, by walk_at "my lk"⟩ (fun b hb' h F => ?_) ?_ ?_ (by with_unfolding_all exact fun _ => rfl) (by with_unfolding_all exact fun _ _ => rfl)
    · rw [List.mem_singleton] at hb'; subst hb'
      exact F.there (x := "points") (xs := []) (by with_unfolding_all exact rfl)
    · rintro i y ρ' ⟨bs, hbs, hmap, hsub⟩ hy
      obtain ⟨x, hx, rfl⟩ : ∃ x, ns[i]? = some x ∧ y = .int x := by
        unfold iL at hy
        rw [List.getElem?_map] at hy
        cases q : ns[i]? with
        | none => rw [q] at hy; cases hy
        | some v => rw [q] at hy; cases hy; exact ⟨v, rfl, rfl⟩
      refine Tn_sub (sub_cons (by with_unfolding_all exact rfl) hsub) ?_
      clear hsub
      -- own, rest
      refine Tn_step fun s F t => ?_
      refine step_swapped (names := ["own", "rest"]) (pv := .tuple [.fresh s.heap (.list (iL (ptI x))), .int (x / 36864)]) (pvs := [.fresh s.heap (.list (iL (ptI x))), .int (x / 36864)]) F ?e1z Seqs.t rfl ?e2z (by with_unfolding_all exact rfl) (by with_unfolding_all exact rfl) fun s' g kp F' => ?e3z
      case e1z =>
        refine E_Tuple (A_cons (E_CallF F.sit (by with_unfolding_all exact rfl) (is_point _) (kp_102 _) (by decide) (by walk_at "my args") (pointF_spec F.sit.glo F.rm (by (walk_at "my om")) x) (by with_unfolding_all exact rfl) (by with_unfolding_all exact rfl)) (A_cons (by walk_at "my ev") A_nil (by with_unfolding_all exact rfl)) (by with_unfolding_all exact rfl)) (Nat.le_of_ble_eq_true rfl)
      case e2z => exact fm (Storable.loc (by with_unfolding_all exact rfl)) (fm (Storable.loc (by with_unfolding_all exact rfl)) fm0)
      case e3z =>
        obtain ⟨co, hco, hoa⟩ : ∃ co, Frm w _ _ _ h₀ [("own", .lst co (iL (ptI x))), ("rest", .int (x / 36864)), ("x", .int x), ("points", .lst a (pL bs)), ("numbers", .old hb (.list (iL ns)))] s'.heap ∧ co ≠ a := by
          obtain ⟨v, r, sl⟩ := F'.look "own" (.fresh s.heap (.list (iL (ptI x)))) (by with_unfolding_all exact rfl)
          obtain ⟨co, hc, r'⟩ := Rep.ofFresh r
          refine ⟨co, ?_, ?_⟩
          · refine { F' with look := fun y pv e => ?_ }
            by_cases hy : y = "own"
            · subst hy
              rw [lookup_cons_eq] at e
              cases e
              exact ⟨v, r', sl⟩
            · rw [lookup_cons_ne hy] at e
              exact F'.look y pv (by show List.lookup y (("own", _) :: _) = _; rw [lookup_cons_ne hy]; exact e)
          · rintro rfl
            exact F.there (x := "points") (xs := pL bs) (by with_unfolding_all exact rfl) hc
        refine ⟨rfl, g, kp.x, .nil _, _, hco, ?_⟩
        clear hco F' F g kp t s s'
        -- other
        refine Tn_assignF (xs := iL (otI x)) (fun h F => E_ListF (pvs := iL (otI x)) ?o1z (Nat.le_of_ble_eq_true rfl)) (.inl (by with_unfolding_all exact rfl)) (by with_unfolding_all exact rfl) fun ct hct => ?_
        case o1z =>
          show ArgsTo w _ _ h _ _ [.int ((x % 64 + x / 36864) % 64), .int (x / 36864 / 64 % 9), .int (x / 576 % 4 + 1)]
          refine A_cons (E_BinOp (E_BinOp (E_Item (x := .list (iL (ptI x))) (y := .int 0) (E_unlst (by walk_at "my ev")) E_Int (G_list (by (walk_at "my om")) (by (walk_at "my om")) rfl)) (by walk_at "my ev") B_add_int) E_Int (B_mod_int (by first | decide | (walk_at "my om")))) (A_cons (by walk_at "my ev") (A_cons (E_Item (x := .list (iL (ptI x))) (y := .int 2) (E_unlst (by walk_at "my ev")) E_Int (G_list (by (walk_at "my om")) (by (walk_at "my om")) rfl)) A_nil (by with_unfolding_all exact rfl)) (by with_unfolding_all exact rfl)) (by with_unfolding_all exact rfl)
        have hta : ct ≠ a := hct "points" a (pL bs) (by with_unfolding_all exact rfl)
        clear hct
        -- drawn
        refine Tn_assignF (xs := if x / 36864 % 2 = 1 then [.lst ct (iL (otI x))] else []) (fun h F => ?d1z) (.inl (by with_unfolding_all exact rfl)) (by with_unfolding_all exact rfl) fun cd hcd => ?_
        case d1z =>
          refine E_IfExp (c := (x / 36864 % 2 == 1)) (by walk_at "my test") (fun hq => ?d2z) (fun hq => ?d3z)
          case d2z =>
            rw [if_pos (by simpa using hq)]
            exact E_ListF (pvs := [.lst ct (iL (otI x))]) (by walk_at "my args") (Nat.le_of_ble_eq_true rfl)
          case d3z =>
            rw [if_neg (by simpa using hq)]
            exact E_ListF A_nil (Nat.le_of_ble_eq_true rfl)
        have hda : cd ≠ a := hcd "points" a (pL bs) (by with_unfolding_all exact rfl)
        clear hcd
        refine Tn_step fun s F t => wpAny_Expr_any (Meth_raw (x := .lst a (pL bs)) (T := "list") (id := "list.extend") (E_Name F.sit (by with_unfolding_all exact rfl) (by with_unfolding_all exact rfl) (by with_unfolding_all exact rfl)) (lst_type _ _) PySem.F.plainAttrs_list PySem.F.slot_list_extend PySem.F.type_list_extend (lst_dict _ _) (fun ov s₁ g₁ r₁ => ?_) rfl rfl rfl rfl rfl)
        have F₁ := F.grow g₁.ext
        have hthere : s₁.heap.get? a ≠ none := F₁.there (x := "points") (xs := pL bs) (by with_unfolding_all exact rfl)
        obtain ⟨item, qs, hitem, hopen, hpts⟩ : ∃ (item : PV) (qs : List PV), [PV.fresh s₁.heap (.list [.lst co (iL (ptI x))]), .fresh s₁.heap (.list [.fresh s₁.heap (.list (iL [0, 0, 4]))]), .fresh s₁.heap (.list [.fresh s₁.heap (.list (iL [0, 0, 4])), .lst co (iL (ptI x))]), .lst cd (if x / 36864 % 2 = 1 then [.lst ct (iL (otI x))] else [])][(x / 9216 % 4).toNat]? = some item ∧
            (∀ h v, Rep h item v → ∃ (c : Addr) (us : List Value), v = .ref c ∧ h.PlainList c us.toArray ∧ Reps h qs us) ∧ Pts a s₁.heap qs (patI x) := by
          have opF : ∀ (qs : List PV) (h : Heap) (v : Value), Rep h (.fresh s₁.heap (.list qs)) v → ∃ (c : Addr) (us : List Value), v = .ref c ∧ h.PlainList c us.toArray ∧ Reps h qs us := fun qs h v r => by
            obtain ⟨c, _, r'⟩ := Rep.ofFresh r
            obtain ⟨e, us, hp, rs⟩ := rep_lst r'
            exact ⟨c, us, e, hp, rs⟩
          have hc4 : x / 9216 % 4 = 0 ∨ x / 9216 % 4 = 1 ∨ x / 9216 % 4 = 2 ∨ x / 9216 % 4 = 3 := by (walk_at "my om")
          unfold patI
          rcases hc4 with q | q | q | q
          · rw [q]
            exact ⟨_, [.lst co (iL (ptI x))], rfl, opF _, .lst hoa .nil⟩
          · rw [q]
            exact ⟨_, [.fresh s₁.heap (.list (iL [0, 0, 4]))], rfl, opF _, .fresh .nil⟩
          · rw [q]
            exact ⟨_, [.fresh s₁.heap (.list (iL [0, 0, 4])), .lst co (iL (ptI x))], rfl, opF _, .fresh (.lst hoa .nil)⟩
          · rw [q]
            refine ⟨_, if x / 36864 % 2 = 1 then [.lst ct (iL (otI x))] else [], rfl, fun h v r => ?_, ?_⟩
            · obtain ⟨e, us, hp, rs⟩ := rep_lst r
              exact ⟨cd, us, e, hp, rs⟩
            · rw [if_neg (show ¬ (3 : Int) = 0 by decide), if_neg (show ¬ (3 : Int) = 1 by decide), if_neg (show ¬ (3 : Int) = 2 by decide)]
              split
              · exact .lst hta .nil
              · exact .nil
        refine Ev.use (P := fun vs h' => Reps h' [item] vs) (h := s₁.heap) (A_cons (E_Item (y := .int (x / 9216 % 4)) (E_List (A_cons (E_ListF (A_cons (by walk_at "my ev") A_nil (by with_unfolding_all exact rfl)) (Nat.le_of_ble_eq_true rfl)) (A_cons (E_ListF (A_cons (E_ListF (pvs := iL [0, 0, 4]) (A_cons E_Int (A_cons E_Int (A_cons E_Int A_nil (by with_unfolding_all exact rfl)) (by with_unfolding_all exact rfl)) (by with_unfolding_all exact rfl)) (Nat.le_of_ble_eq_true rfl)) A_nil (by with_unfolding_all exact rfl)) (Nat.le_of_ble_eq_true rfl)) (A_cons (E_ListF (A_cons (E_ListF (pvs := iL [0, 0, 4]) (A_cons E_Int (A_cons E_Int (A_cons E_Int A_nil (by with_unfolding_all exact rfl)) (by with_unfolding_all exact rfl)) (by with_unfolding_all exact rfl)) (Nat.le_of_ble_eq_true rfl)) (A_cons (by walk_at "my ev") A_nil (by with_unfolding_all exact rfl)) (by with_unfolding_all exact rfl)) (Nat.le_of_ble_eq_true rfl)) (A_cons (by walk_at "my ev") A_nil (by with_unfolding_all exact rfl)) (by with_unfolding_all exact rfl)) (by with_unfolding_all exact rfl)) (by with_unfolding_all exact rfl)) (Nat.le_of_ble_eq_true rfl)) (by walk_at "my ev") (G_list (by (walk_at "my om")) (by (walk_at "my om")) hitem)) A_nil (by with_unfolding_all exact rfl)) (.refl _) fun ws s₂ g₂ r₂ => ?_
        obtain ⟨u, rfl, ru⟩ := reps1 r₂
        obtain ⟨c, us, rfl, hpc, rus⟩ := hopen _ _ ru
        obtain ⟨cs, hcs1, hcs2, rcs⟩ := hpts.open hthere rus
        obtain ⟨rfl, vs, hp, rs⟩ := rep_lst (Rep.mono g₂.ext _ _ r₁)
        have hbl : bs.length ≤ 2 * ns.length := by
          have h1 := patsI_len (ns.take i)
          rw [← hmap, List.length_map] at h1
          have := List.length_take_le i ns
          rw [List.length_take] at h1
          (walk_at "my om")
        have hcl : cs.length ≤ 2 := by
          have h1 := patI_len x
          rw [← hcs1, List.length_map] at h1
          exact h1
        refine call_extend hp rs hpc rcs hbs hcs2 (by (walk_at "my om")) fun h' kb hr' => ?_
        have F₃ := (F₁.grow g₂.ext).mutate (x := "points") (xs := pL bs) (ρ' := [("numbers", .old hb (.list (iL ns)))]) (by with_unfolding_all exact rfl) kb h0a hr' (fun q hq => by
          rw [List.mem_singleton] at hq; subst hq
          exact ⟨by with_unfolding_all exact rfl, .old fun b hb' => by rw [List.mem_singleton] at hb'; subst hb'; exact hba⟩)
        refine ⟨rfl, (g₁.same.trans g₂.same).trans ⟨_, _, rfl⟩, ((g₁.ext.keep.trans g₂.ext.keep).x).trans (KeepX.of kb List.mem_cons_self), .nil _, _, F₃, Tn_nil ⟨bs ++ cs, fun q hq => ?_, ?_, ?_⟩⟩
        · rcases List.mem_append.mp hq with hq | hq
          · exact hbs q hq
          · exact hcs2 q hq
        · rw [List.map_append, hmap, hcs1, List.take_add_one, hx]
          unfold patsI
          simp
        · walk_at "my lk"
    · rintro ρ' ⟨bs, hbs, hmap, hsub⟩
      refine Body.sub hsub ?_
      rw [show (iL ns).length = ns.length by unfold iL; rw [List.length_map], List.take_length] at hmap
      refine B_return fun h F => Ev.imp (E_Name F.sit (x := "points") (pv := .lst a (pL bs)) (by with_unfolding_all exact rfl) (by with_unfolding_all exact rfl) (by with_unfolding_all exact rfl)) fun v h' _ r => ?_
      obtain ⟨rfl, vs, hp, rs⟩ := rep_lst r
      rw [← hmap]
      exact .mkList hp.isList (reps_unlst rs)
end
section
section
open Builtin.Str StrLaws
noncomputable def mkS (l : List Nat) : Str := ⟨l.toArray⟩
theorem mkS_list {l : List Nat} : (mkS l).cps.toList = l := rfl
theorem mkS_len {l : List Nat} : (mkS l).length = l.length := rfl
theorem mkS_of (s : Str) : mkS s.cps.toList = s := by obtain ⟨⟨l⟩⟩ := s; rfl
theorem at_iff {got w : List Nat} {en i : Nat} : At (mkS got) (mkS w) en i ↔ i + w.length ≤ en ∧ (got.drop i).take w.length = w := by
  unfold StrLaws.At
  rw [subAt_eq, mkS_len, mkS_list, mkS_list, beq_iff_eq]
theorem occ1 (x y : Str) (lo hi : Nat) :
    (occurrences x y lo hi 1 = [] ∧ ∀ i, lo ≤ i → ¬ At x y hi i) ∨ ∃ i r, occurrences x y lo hi 1 = i :: r ∧ lo ≤ i ∧ At x y hi i ∧ ∀ k, lo ≤ k → k < i → ¬ At x y hi k := by
  rw [occ_eq]
  generalize hL : List.range' lo (hi + 1 - lo) = L
  have hmem : ∀ i, i ∈ L ↔ lo ≤ i ∧ i < lo + (hi + 1 - lo) := fun i => by rw [← hL]; exact List.mem_range'_1
  have hpw : L.Pairwise (· < ·) := by rw [← hL]; exact List.pairwise_lt_range'
  rcases occ_first x y hi 1 (Nat.le_refl _) L lo (fun i hi => ((hmem i).mp hi).1) with ⟨e, hn⟩ | ⟨pre, a, post, e, e0, ha, hn⟩
  · exact .inl ⟨by rw [e], fun i h1 h2 => hn i ((hmem i).mpr ⟨h1, by have := h2.1; (walk_at "my om")⟩) h2⟩
  · have hla := (hmem a).mp (by rw [e]; simp)
    generalize (forIn L ((#[] : Array Nat), lo) (occBody x y hi 1)).run.fst = arr at e0
    obtain ⟨l⟩ := arr
    cases l with
    | nil => simp at e0
    | cons b r =>
      simp at e0
      subst e0
      refine .inr ⟨b, r, rfl, hla.1, ha, fun k h1 h2 => hn k ?_⟩
      have hk := (hmem k).mpr ⟨h1, by (walk_at "my om")⟩
      rw [e] at hk hpw
      rcases List.mem_append.mp hk with q | q
      · exact q
      · rcases List.mem_cons.mp q with rfl | q
        · exact absurd h2 (Nat.lt_irrefl _)
        · have := (List.pairwise_cons.mp (List.pairwise_append.mp hpw).2.1).1 k q
          (walk_at "my om")
theorem pre_iff {got w : List Nat} {en m : Nat} (hm : m ≤ en) : w.isPrefixOf ((got.take en).drop m) = true ↔ At (mkS got) (mkS w) en m := by
  rw [at_iff, List.isPrefixOf_iff_prefix, List.drop_take, List.prefix_take_iff, List.prefix_iff_eq_take]
  constructor
  · rintro ⟨h1, h2⟩; exact ⟨by (walk_at "my om"), h1.symm⟩
  · rintro ⟨h1, h2⟩; exact ⟨h2.symm, by (walk_at "my om")⟩
theorem find_iff {got w : List Nat} {st en j : Nat} (h1 : st ≤ en) (h2 : en ≤ got.length) : IsFind ((got.take en).drop st) w j ↔ At (mkS got) (mkS w) en (st + j) ∧ ∀ k, st ≤ k → k < st + j → ¬ At (mkS got) (mkS w) en k := by
  unfold IsFind
  have hl : ((got.take en).drop st).length = en - st := by rw [List.length_drop, List.length_take, Nat.min_eq_left h2]
  rw [hl]
  constructor
  · rintro ⟨a, b, c⟩
    rw [List.drop_drop, pre_iff (by (walk_at "my om"))] at a
    refine ⟨a, fun k k1 k2 q => c (k - st) (by (walk_at "my om")) ?_⟩
    rw [List.drop_drop, show st + (k - st) = k by (walk_at "my om"), pre_iff (by (walk_at "my om"))]
    exact q
  · rintro ⟨a, c⟩
    have hb := (at_iff.mp a).1
    refine ⟨?_, by (walk_at "my om"), fun k hk q => c (st + k) (by (walk_at "my om")) (by (walk_at "my om")) ?_⟩
    · rw [List.drop_drop, pre_iff (by (walk_at "my om"))]; exact a
    · rw [List.drop_drop, pre_iff (by (walk_at "my om"))] at q; exact q
theorem pl_eq {got w : List Nat} {st en : Nat} (h2 : en ≤ got.length) : pl (mkS got) st en (mkS w) = occurrences (mkS got) (mkS w) st en 1 := by
  unfold pl
  rw [show fromIndex (mkS got).length (st : Int) = st from by unfold fromIndex; rw [if_neg (by (walk_at "my om"))]; (walk_at "my om"), show fromIndex (mkS got).length (en : Int) = en from by unfold fromIndex; rw [if_neg (by (walk_at "my om"))]; (walk_at "my om"), mkS_len, Nat.min_eq_left h2]
theorem finds_iff {got : List Nat} {en : Nat} (h2 : en ≤ got.length) : ∀ (ws : List (List Nat)) (st : Nat), st ≤ en → (findsB (mkS got) en (ws.map mkS) st = true ↔ Greedy ((got.take en).drop st) ws)
  | [], st, _ => ⟨fun _ => .nil, fun _ => rfl⟩
  | w :: ws, st, h1 => by
    rw [List.map_cons, findsB, pl_eq h2]
    rcases occ1 (mkS got) (mkS w) st en with ⟨e, hn⟩ | ⟨i, r, e, hi, ha, hn⟩
    · rw [e]
      constructor
      · intro q; cases q
      · intro q
        cases q with
        | cons hf _ => exact absurd ((find_iff h1 h2).mp hf).1 (hn _ (by (walk_at "my om")))
    · rw [e]
      have hb := (at_iff.mp ha).1
      show findsB (mkS got) en (ws.map mkS) (i + w.length) = true ↔ _
      rw [finds_iff h2 ws (i + w.length) hb]
      have hf : IsFind ((got.take en).drop st) w (i - st) := (find_iff h1 h2).mpr (by rw [show st + (i - st) = i by (walk_at "my om")]; exact ⟨ha, hn⟩)
      have hd : ((got.take en).drop st).drop (i - st + w.length) = (got.take en).drop (i + w.length) := by rw [List.drop_drop]; congr 1; (walk_at "my om")
      constructor
      · intro g
        exact .cons hf (by rw [hd]; exact g)
      · intro g
        cases g with
        | @cons _ _ _ j hf' g =>
          have hij : j = i - st := by
            have a1 := (find_iff h1 h2).mp hf'
            rcases Nat.lt_trichotomy j (i - st) with q | q | q
            · exact absurd a1.1 (hn _ (by (walk_at "my om")) (by (walk_at "my om")))
            · exact q
            · exact absurd ha (a1.2 i hi (by (walk_at "my om")))
          rw [hij, hd] at g
          exact g
theorem greedy_nil_head {u : List Nat} {ws : List (List Nat)} : Greedy u ([] :: ws) ↔ Greedy u ws := by
  constructor
  · intro g
    cases g with
    | @cons _ _ _ j hf g =>
      have : j = 0 := by
        rcases Nat.eq_zero_or_pos j with q | q
        · exact q
        · exact absurd rfl (hf.2.2 0 q)
      subst this
      simpa using g
  · intro g
    exact .cons (i := 0) ⟨rfl, Nat.zero_le _, fun j hj => absurd hj (Nat.not_lt_zero _)⟩ (by simpa using g)
theorem greedy_nil_last {ws : List (List Nat)} : ∀ {u : List Nat}, Greedy u (ws ++ [[]]) ↔ Greedy u ws := by
  induction ws with
  | nil => intro u; rw [List.nil_append, greedy_nil_head]
  | cons w ws ih =>
    intro u
    constructor
    · intro g
      cases g with
      | cons hf g => exact .cons hf (ih.mp g)
    · intro g
      cases g with
      | cons hf g => exact .cons hf (ih.mpr g)
theorem tail_iff {got : List Nat} {st en : Nat} {ws : List (List Nat)} (h2 : en ≤ got.length) : tailB (mkS got) (ws.map mkS) st en = true ↔ st ≤ en ∧ Greedy ((got.take en).drop st) ws := by
  unfold tailB
  by_cases h : en < st
  · rw [if_pos h]
    constructor
    · intro q; cases q
    · rintro ⟨q, _⟩; (walk_at "my om")
  · rw [if_neg h, finds_iff h2 ws st (by (walk_at "my om"))]
    exact ⟨fun g => ⟨by (walk_at "my om"), g⟩, fun g => g.2⟩
theorem starts_iff {got w : List Nat} : startsW (mkS got) (mkS w) = true ↔ w.length ≤ got.length ∧ got.take w.length = w := by
  unfold startsW
  rw [subAt_eq, mkS_len, mkS_len, mkS_list, mkS_list, List.drop_zero, Bool.and_eq_true, beq_iff_eq, decide_eq_true_eq, Nat.zero_add]
theorem ends_iffW {got w : List Nat} : endsW (mkS got) (mkS w) = true ↔ w.length ≤ got.length ∧ got.drop (got.length - w.length) = w := by
  unfold endsW
  rw [subAt_eq, mkS_len, mkS_len, mkS_list, mkS_list, Bool.and_eq_true, beq_iff_eq, decide_eq_true_eq, Nat.zero_add]
  constructor
  · rintro ⟨a, b⟩
    refine ⟨a, ?_⟩
    rw [List.take_of_length_le (by rw [List.length_drop]; (walk_at "my om"))] at b
    exact b
  · rintro ⟨a, b⟩
    refine ⟨a, ?_⟩
    rw [List.take_of_length_le (by rw [List.length_drop]; (walk_at "my om"))]
    exact b
theorem last_iff {got wl : List Nat} {st : Nat} {ms : List (List Nat)} : lastB (mkS got) ((ms ++ [wl]).map mkS) st = true ↔ wl.length ≤ got.length ∧ got.drop (got.length - wl.length) = wl ∧ st ≤ got.length - wl.length ∧ Greedy ((got.take (got.length - wl.length)).drop st) ms := by
  unfold lastB
  rw [List.map_append, List.map_cons, List.map_nil]
  simp only [List.getLastD_concat, List.dropLast_concat, mkS_len]
  by_cases h : wl.length = 0
  · have hw : wl = [] := List.eq_nil_of_length_eq_zero h
    subst hw
    rw [if_pos h, show ms.map mkS ++ [mkS []] = (ms ++ [[]]).map mkS by simp, tail_iff (Nat.le_refl _), greedy_nil_last]
    simp
  · rw [if_neg h]
    by_cases h2 : endsW (mkS got) (mkS wl) = true
    · rw [if_pos h2, tail_iff (by (walk_at "my om"))]
      have := ends_iffW.mp h2
      exact ⟨fun g => ⟨this.1, this.2, g.1, g.2⟩, fun g => ⟨g.2.2.1, g.2.2.2⟩⟩
    · rw [if_neg h2]
      constructor
      · intro q; cases q
      · rintro ⟨a, b, _⟩; exact absurd (ends_iffW.mpr ⟨a, b⟩) h2
theorem head_iff {got w0 wl : List Nat} {ms : List (List Nat)} : headB (mkS got) ((w0 :: (ms ++ [wl])).map mkS) = true ↔ ∃ u, got = w0 ++ u ++ wl ∧ Greedy u ms := by
  have key : headB (mkS got) ((w0 :: (ms ++ [wl])).map mkS) = true ↔ (w0.length ≤ got.length ∧ got.take w0.length = w0) ∧ wl.length ≤ got.length ∧ got.drop (got.length - wl.length) = wl ∧ w0.length ≤ got.length - wl.length ∧ Greedy ((got.take (got.length - wl.length)).drop w0.length) ms := by
    rw [List.map_cons]
    show (if (mkS w0).length = 0 then lastB (mkS got) (mkS w0 :: (ms ++ [wl]).map mkS) 0 else if startsW (mkS got) (mkS w0) = true then lastB (mkS got) ((ms ++ [wl]).map mkS) (mkS w0).length else false) = true ↔ _
    rw [mkS_len]
    by_cases h : w0.length = 0
    · have hw : w0 = [] := List.eq_nil_of_length_eq_zero h
      subst hw
      rw [if_pos h, show mkS [] :: (ms ++ [wl]).map mkS = (([] :: ms) ++ [wl]).map mkS by simp, last_iff, greedy_nil_head]
      simp
    · rw [if_neg h]
      by_cases h2 : startsW (mkS got) (mkS w0) = true
      · rw [if_pos h2, last_iff]
        have := starts_iff.mp h2
        exact ⟨fun g => ⟨this, g⟩, fun g => g.2⟩
      · rw [if_neg h2]
        constructor
        · intro q; cases q
        · rintro ⟨a, _⟩; exact absurd (starts_iff.mpr a) h2
  rw [key]
  constructor
  · rintro ⟨⟨a, b⟩, c, d, e, g⟩
    refine ⟨_, ?_, g⟩
    have h1 : got.take (got.length - wl.length) ++ wl = got := by
      have := List.take_append_drop (got.length - wl.length) got
      rw [d] at this; exact this
    have h2 : w0 ++ (got.take (got.length - wl.length)).drop w0.length = got.take (got.length - wl.length) := by
      have h3 : (got.take (got.length - wl.length)).take w0.length = w0 := by rw [List.take_take, Nat.min_eq_left e]; exact b
      conv => lhs; lhs; rw [← h3]
      exact List.take_append_drop _ _
    rw [h2, h1]
  · rintro ⟨u, e, g⟩
    have hl : got.length = w0.length + u.length + wl.length := by rw [e, List.length_append, List.length_append]
    have h1 : got.take (got.length - wl.length) = w0 ++ u := by
      rw [hl, e, List.take_append_of_le_length (by simp), List.take_of_length_le (by simp)]
    refine ⟨⟨by (walk_at "my om"), ?_⟩, by (walk_at "my om"), ?_, by (walk_at "my om"), ?_⟩
    · rw [e, List.append_assoc, List.take_left]
    · rw [hl, show w0.length + u.length + wl.length - wl.length = (w0 ++ u).length by rw [List.length_append]; (walk_at "my om"), e, List.drop_left]
    · rw [h1, List.drop_left]; exact g
end
end
section
section
open Builtin.Str StrLaws
noncomputable def expand (p : List Nat) : List Nat := p.flatMap fun c => if c = 52 then [46, 46, 46] else [c]
noncomputable def No46 (p : List Nat) : Prop := ∀ c ∈ p, c ≠ 46
noncomputable def pcs : List Nat → List (List Nat)
  | [] => [[]]
  | c :: p => if c = 52 then [] :: pcs p else match pcs p with | [] => [[c]] | w :: ws => (c :: w) :: ws
theorem pcs_app {w r : List Nat} (h : No4 w) : pcs (w ++ 52 :: r) = w :: pcs r := by
  induction w with
  | nil => rw [List.nil_append, pcs, if_pos rfl]
  | cons c w ih =>
    rw [List.cons_append, pcs, if_neg (h c List.mem_cons_self), ih fun x hx => h x (List.mem_cons_of_mem _ hx)]
theorem pcs_no {w : List Nat} (h : No4 w) : pcs w = [w] := by
  induction w with
  | nil => rfl
  | cons c w ih =>
    rw [pcs, if_neg (h c List.mem_cons_self), ih fun x hx => h x (List.mem_cons_of_mem _ hx)]
theorem cut4 (p : List Nat) : No4 p ∨ ∃ w r, p = w ++ 52 :: r ∧ No4 w := by
  by_cases h : 52 ∈ p
  · obtain ⟨w, r, e, hw⟩ := List.eq_append_cons_of_mem h
    exact .inr ⟨w, r, e, fun c hc q => hw (q ▸ hc)⟩
  · exact .inl fun c hc q => h (q ▸ hc)
theorem expand_no {w : List Nat} (h : No4 w) : expand w = w := by
  induction w with
  | nil => rfl
  | cons c w ih =>
    show (if c = 52 then [46, 46, 46] else [c]) ++ expand w = _
    rw [if_neg (h c List.mem_cons_self), ih fun x hx => h x (List.mem_cons_of_mem _ hx)]; rfl
theorem expand_app {w r : List Nat} (h : No4 w) : expand (w ++ 52 :: r) = w ++ [46, 46, 46] ++ expand r := by
  have : expand (w ++ 52 :: r) = expand w ++ expand (52 :: r) := by unfold expand; rw [List.flatMap_append]
  rw [this, expand_no h, List.append_assoc]; rfl
theorem pcs_four (p : List Nat) : ∀ w ∈ pcs p, No4 w := by
  induction p with
  | nil => intro w hw; rw [pcs, List.mem_singleton] at hw; subst hw; exact fun c hc => by cases hc
  | cons c p ih =>
    intro w hw
    rw [pcs] at hw
    split at hw
    · rcases List.mem_cons.mp hw with rfl | hw
      · exact fun c hc => by cases hc
      · exact ih w hw
    · rename_i hc
      split at hw
      · rw [List.mem_singleton] at hw; subst hw
        intro x hx; rw [List.mem_singleton] at hx; subst hx; exact hc
      · rename_i w' ws' e
        rw [e] at ih
        rcases List.mem_cons.mp hw with rfl | hw
        · intro x hx
          rcases List.mem_cons.mp hx with rfl | hx
          · exact hc
          · exact ih w' List.mem_cons_self x hx
        · exact ih w (List.mem_cons_of_mem _ hw)
/-- the pattern that these pieces make -/
noncomputable def unp : List (List Nat) → List Nat
  | [] => []
  | w :: ws => w ++ ws.flatMap (fun v => 52 :: v)
theorem unp_pcs (p : List Nat) : unp (pcs p) = p := by
  induction p with
  | nil => rfl
  | cons c p ih =>
    rw [pcs]
    split
    · rename_i hc
      subst hc
      cases e : pcs p with
      | nil => rw [e] at ih; cases p with
        | nil => cases e
        | cons x y => cases ih
      | cons w ws =>
        rw [e] at ih
        rw [← ih]; rfl
    · cases e : pcs p with
      | nil => rw [e] at ih; cases p with
        | nil => cases e
        | cons x y => cases ih
      | cons w ws =>
        rw [e] at ih
        rw [← ih]; rfl
theorem star_unp {wl : List Nat} : ∀ (ms : List (List Nat)), starP ms ++ wl = (ms ++ [wl]).flatMap (fun v => 52 :: v)
  | [] => by simp [starP]
  | w :: ms => by
    rw [starP, List.cons_append, List.append_assoc, star_unp ms]
    simp
theorem at_dots {got : List Nat} {i : Nat} : At (mkS got) dots (mkS got).length i ↔ i + 3 ≤ got.length ∧ (got.drop i).take 3 = [46, 46, 46] := by
  have : dots = mkS [46, 46, 46] := by decide +kernel
  rw [this, at_iff, mkS_len]; rfl
theorem dots_len : dots.length = 3 := by decide +kernel
theorem get_drop {got : List Nat} {i c : Nat} {r : List Nat} (h : (got.drop i).take 3 = c :: r) : got[i]? = some c := by
  have : ((got.drop i).take 3)[0]? = some c := by rw [h]; rfl
  rw [List.getElem?_take, List.getElem?_drop] at this
  simpa using this
theorem parts_run (got : List Nat) : ∀ (cuts : List Nat) (a f : Nat) (pat : List Nat), a ≤ got.length → got.drop a = expand pat → No46 pat → ChainG (mkS got) dots (mkS got).length a cuts f → (∀ k, f ≤ k → ¬ At (mkS got) dots (mkS got).length k) →
    partsFrom (mkS got) dots.length a cuts = (pcs pat).map mkS
  | [], a, f, pat, ha, hd, h46, hc, hn => by
    have hf : f = a := hc
    subst hf
    rcases cut4 pat with h | ⟨w, r, rfl, h⟩
    · rw [pcs_no h, partsFrom, ← mkS_of (strSub (mkS got) f (mkS got).length), strSub_toList, mkS_list, hd, expand_no h, mkS_len, List.take_of_length_le ?_]
      · rfl
      · rw [expand_no h] at hd
        rw [← hd, List.length_drop]; (walk_at "my om")
    · refine absurd (at_dots.mpr ?_) (hn (f + w.length) (by (walk_at "my om")))
      rw [expand_app h] at hd
      have hl := congrArg List.length hd
      simp only [List.length_drop, List.length_append, List.length_cons, List.length_nil] at hl
      refine ⟨by (walk_at "my om"), ?_⟩
      rw [← List.drop_drop, hd, List.append_assoc, List.drop_left]; rfl
  | i :: cuts, a, f, pat, ha, hd, h46, hc, hn => by
    obtain ⟨h1, h2, h3, h4⟩ := hc
    have h2' := at_dots.mp h2
    have hgi := get_drop h2'.2
    have hgi2 : (got.drop a)[i - a]? = some 46 := by rw [List.getElem?_drop, show a + (i - a) = i by (walk_at "my om")]; exact hgi
    rcases cut4 pat with h | ⟨w, r, rfl, h⟩
    · rw [hd, expand_no h] at hgi2
      exact absurd rfl (h46 46 (List.mem_of_getElem? hgi2))
    · rw [expand_app h] at hd
      have hl := congrArg List.length hd
      simp only [List.length_drop, List.length_append, List.length_cons, List.length_nil] at hl
      have hat : At (mkS got) dots (mkS got).length (a + w.length) := by
        refine at_dots.mpr ⟨by (walk_at "my om"), ?_⟩
        rw [← List.drop_drop, hd, List.append_assoc, List.drop_left]; rfl
      have hi : i = a + w.length := by
        rcases Nat.lt_trichotomy i (a + w.length) with q | q | q
        · rw [hd, List.append_assoc, List.getElem?_append_left (by (walk_at "my om"))] at hgi2
          exact absurd rfl (h46 46 (List.mem_append_left _ (List.mem_of_getElem? hgi2)))
        · exact q
        · exact absurd hat (h3 _ (by (walk_at "my om")) q)
      subst hi
      rw [pcs_app h, partsFrom, List.map_cons]
      congr 1
      · rw [← mkS_of (strSub (mkS got) a (a + w.length)), strSub_toList, mkS_list, hd, show a + w.length - a = w.length by (walk_at "my om"), List.append_assoc, List.take_left]
      · refine parts_run got cuts _ f r ?_ ?_ (fun c hc => h46 c (List.mem_append_right _ (List.mem_cons_of_mem _ hc))) h4 hn
        · rw [dots_len]; (walk_at "my om")
        · rw [dots_len, Nat.add_assoc, ← List.drop_drop, hd, show w.length + 3 = (w ++ [46, 46, 46]).length by simp, List.drop_left]
theorem parts_eq {pat : List Nat} (h46 : No46 pat) : parts (mkS (expand pat)) dots = (pcs pat).map mkS := by
  unfold parts
  rw [partsBetween_eq]
  obtain ⟨f, h1, h2⟩ := occ_tight (mkS (expand pat)) dots (by rw [dots_len]; (walk_at "my om"))
  exact parts_run (expand pat) _ 0 f pat (Nat.zero_le _) rfl h46 h1 h2
theorem has_dots {pat : List Nat} (h46 : No46 pat) : (occurrences (mkS (expand pat)) dots 0 (mkS (expand pat)).length 1).isEmpty = true ↔ No4 pat := by
  have fi := found_iff (mkS (expand pat)) dots
  constructor
  · intro q
    rcases cut4 pat with h | ⟨w, r, rfl, h⟩
    · exact h
    · exfalso
      have : (!(occurrences (mkS (expand (w ++ 52 :: r))) dots 0 (mkS (expand (w ++ 52 :: r))).length 1).isEmpty) = true := by
        refine fi.mpr ⟨w.length, at_dots.mpr ?_⟩
        rw [expand_app h]
        refine ⟨by simp, ?_⟩
        rw [List.append_assoc, List.drop_left]; rfl
      rw [q] at this; cases this
  · intro h
    cases q : (occurrences (mkS (expand pat)) dots 0 (mkS (expand pat)).length 1).isEmpty with
    | true => rfl
    | false =>
      exfalso
      obtain ⟨i, hi⟩ := fi.mp (by rw [q]; rfl)
      have := get_drop (at_dots.mp hi).2
      rw [expand_no h] at this
      exact h46 46 (List.mem_of_getElem? this) rfl
theorem WM.no4 {w t : List Nat} (h : No4 w) : WM w t ↔ t = w := by
  have := WM.pre (w := w) (r := []) (t := t) h
  rw [List.append_nil] at this
  rw [this]
  constructor
  · rintro ⟨u, rfl, q⟩
    have : u = [] := q
    subst this; simp
  · rintro rfl
    exact ⟨[], by simp, rfl⟩
theorem ell_law {pat text : List Nat} (h46 : No46 pat) : ellB (mkS (expand pat)) (mkS text) = true ↔ WM pat text := by
  unfold ellB
  rcases cut4 pat with h | ⟨w, r, e, h⟩
  · rw [if_pos ((has_dots h46).mpr h), WM.no4 h, expand_no h]
    constructor
    · intro q
      have : mkS pat = mkS text := eq_of_beq q
      have := congrArg (fun s : Str => s.cps.toList) this
      exact this.symm
    · rintro rfl; exact beq_self_eq_true _
  · rw [if_neg (fun q => by have := (has_dots h46).mp q 52 (by rw [e]; simp); exact this rfl), parts_eq h46]
    have hne : pcs r ≠ [] := fun q => by
      have := unp_pcs r
      rw [q] at this
      cases r with
      | nil => cases q
      | cons x y => cases this
    have e1 : pcs pat = w :: ((pcs r).dropLast ++ [(pcs r).getLast hne]) := by rw [e, pcs_app h, List.dropLast_concat_getLast hne]
    rw [e1, head_iff]
    generalize hms : (pcs r).dropLast = ms at *
    generalize hwl : (pcs r).getLast hne = wl at *
    have hfour := pcs_four pat
    rw [e1] at hfour
    have hw4 : No4 wl := hfour wl (by simp)
    have hm4 : ∀ m ∈ ms, No4 m := fun m hm => hfour m (by simp [hm])
    have e2 : pat = w ++ (starP ms ++ wl) := by
      have := unp_pcs pat
      rw [e1] at this
      rw [star_unp]; exact this.symm
    rw [e2, WM.pre h]
    constructor
    · rintro ⟨u, rfl, g⟩
      exact ⟨u ++ wl, by rw [List.append_assoc], (WM.post hw4).mpr ⟨u, rfl, (greedy_iff hm4).mp g⟩⟩
    · rintro ⟨v, rfl, g⟩
      obtain ⟨u, rfl, g'⟩ := (WM.post hw4).mp g
      exact ⟨u, by rw [List.append_assoc], (greedy_iff hm4).mpr g'⟩
end
end
section
section
theorem pickL_map {α β : Type} (f : α → β) (xs : List α) (a b c : Option Int) : pickL (xs.map f) a b c = (pickL xs a b c).map f := by
  unfold pickL
  rw [List.length_map, List.map_filterMap]
  congr 1
  funext i
  rw [List.getElem?_map]
theorem pickL_len {ns : List Int} {a b c : Option Int} : (pickL ns a b c).length ≤ ns.length := by
  have h := slicePick_size_le (ns.map fun i => Value.int i 0).toArray a b c
  unfold slicePick at h
  rw [List.size_toArray] at h
  have e := congrArg List.length (pickL_map (fun i => Value.int i 0) ns a b c)
  unfold pickL at e ⊢
  simp only [List.size_toArray, List.length_map, List.getElem?_toArray] at h e ⊢
  (walk_at "my om")
theorem pickL_take {α : Type} (xs : List α) (k : Nat) : pickL xs none (some (k : Int)) none = xs.take k := by
  unfold pickL
  have hb : sliceBounds none (some (k : Int)) none xs.length = (((0 : Nat) : Int), ((min k xs.length : Nat) : Int), 1) := by
    unfold sliceBounds
    simp only [Option.getD_none, show (1 : Int) > 0 from by (walk_at "my om"), if_true]
    rw [if_neg (Int.not_lt.mpr (Int.natCast_nonneg k)), mx0]
    rfl
  rw [hb]
  dsimp only
  rw [sliceRange_one, StrLaws.picks _ _ _ (by (walk_at "my om")), List.drop_zero, Nat.sub_zero]
  rw [List.take_eq_take_iff]; (walk_at "my om")
theorem pickL_drop {α : Type} (xs : List α) (k : Nat) : pickL xs (some (k : Int)) none none = xs.drop k := by
  unfold pickL
  have hb : sliceBounds (some (k : Int)) none none xs.length = (((min k xs.length : Nat) : Int), ((xs.length : Nat) : Int), 1) := by
    unfold sliceBounds
    simp only [Option.getD_none, show (1 : Int) > 0 from by (walk_at "my om"), if_true]
    rw [if_neg (Int.not_lt.mpr (Int.natCast_nonneg k)), mx0]
  rw [hb]
  dsimp only
  rw [sliceRange_one, StrLaws.picks _ _ _ (by (walk_at "my om"))]
  rcases Nat.lt_or_ge k xs.length with h | h
  · rw [Nat.min_eq_left (by (walk_at "my om")), List.take_of_length_le (by rw [List.length_drop]; (walk_at "my om"))]
  · rw [Nat.min_eq_right h, List.drop_eq_nil_of_le h, List.drop_eq_nil_of_le (Nat.le_refl _), List.take_nil]
end
end
section
section
variable {w : World} {A : Around} {env : Env} {n : Nat} {h₀ h : Heap} {ρ : List (Str × PV)}
noncomputable def PostT (h₀ : Heap) (T : List Addr) (r : PV) (s : Shared) (f : Flow) (s' : Shared) : Prop := ∃ v, f = .ret v ∧ Same s s' ∧ Ext h₀ s'.heap ∧ Tabs T s'.heap ∧ Rep s'.heap r v
/-- a block that gives r back, with the tables told on the way -/
noncomputable def BodyT (w : World) (A : Around) (env : Env) (n : Nat) (h₀ : Heap) (T : List Addr) (ρ : List (Str × PV)) (stmts : List Stmt) (r : PV) : Prop :=
  ∀ s : Shared, Frm w A env n h₀ ρ s.heap → Tabs T s.heap → wpAny (model PP w) A (execs stmts env) (PostT h₀ T r s) (fun _ _ => False) s
theorem BodyT.from {T : List Addr} {stmts : List Stmt} {r : PV} {s s₁ : Shared} (b : BodyT w A env n h₀ T ρ stmts r) (F : Frm w A env n h₀ ρ s₁.heap) (t : Tabs T s₁.heap) (g : Same s s₁) :
    wpAny (model PP w) A (execs stmts env) (PostT h₀ T r s) (fun _ _ => False) s₁ :=
  wpAny_mono (b s₁ F t) (fun _ _ ⟨v, e, g', x⟩ => ⟨v, e, g.trans g', x⟩) fun _ _ x => x
theorem BodyT.congr {T : List Addr} {stmts : List Stmt} {r r' : PV} (b : BodyT w A env n h₀ T ρ stmts r) (e : r = r') : BodyT w A env n h₀ T ρ stmts r' := e ▸ b
/-- other words for the same values -/
theorem Frm.weaken {ρ' : List (Str × PV)} (k : ∀ q ∈ ρ', ∃ p, ρ.lookup q.1 = some p ∧ ∀ h v, Rep h p v → Rep h q.2 v) (F : Frm w A env n h₀ ρ h) : Frm w A env n h₀ ρ' h := by
  refine { F with look := fun x pv e => ?_ }
  obtain ⟨p, h1, h2⟩ := k _ (mem_of_lookup e)
  obtain ⟨v, rv, sl⟩ := F.look x p h1
  exact ⟨v, h2 _ _ rv, sl⟩
theorem BodyT.weaken {T : List Addr} {stmts : List Stmt} {r : PV} {ρ' : List (Str × PV)} (k : ∀ q ∈ ρ', ∃ p, ρ.lookup q.1 = some p ∧ ∀ h v, Rep h p v → Rep h q.2 v) (b : BodyT w A env n h₀ T ρ' stmts r) : BodyT w A env n h₀ T ρ stmts r := fun s F t =>
  b s (F.weaken k) t
noncomputable def un : PV → PV
  | .old _ p => p
  | .lst _ xs => .list xs
  | p => p
theorem un_rep {h : Heap} {p : PV} {v : Value} (r : Rep h p v) : Rep h (un p) v := by cases p <;> first | exact r.unold | exact r.unlst | exact r
theorem weak_un {l ρ' : List (Str × PV)} (k : ∀ q ∈ l, ρ'.lookup q.1 = some q.2) : ∀ q ∈ l.map (fun q => (q.1, un q.2)), ∃ p, ρ'.lookup q.1 = some p ∧ ∀ h v, Rep h p v → Rep h q.2 v := fun q hq => by
  obtain ⟨q', hq', rfl⟩ := List.mem_map.mp hq
  exact ⟨_, k q' hq', fun h v => un_rep⟩
theorem BT_assign {T : List Addr} {x : Str} {e : PySem.Expr} {pos pos' : Pos} {more : List Stmt} {pv r : PV} (he : ∀ h, Frm w A env n h₀ ρ h → EvalsTo w A env h e pv)
    (hk : Storable env x) (hs : swapsWith e (some (.Name x pos')) pos.line env = pure false)
    (b : BodyT w A env n h₀ T ((x, pv) :: ρ) more r) : BodyT w A env n h₀ T ρ (.Assign [.Name x pos'] e pos :: more) r := by
  intro s F t
  refine wpAny_execs_cons (wpAny_Assign_Name ((he _ F).use (.refl _) fun v s₁ g₁ p₁ => ?_) hs)
  refine (F.grow g₁.ext).store p₁ hk fun h' tk F' _ k => ?_
  exact b.from F' ((t.ext g₁.ext).keep k) (g₁.same.trans ⟨_, _, rfl⟩)
theorem BT_newList {T : List Addr} {x : Str} {p pos' pos : Pos} {rest : List Stmt} {r : PV} (hk : Storable env x) (hs : swapsWith (.List [] p) (some (.Name x pos')) pos.line env = pure false)
    (b : ∀ hb a, hb.get? a = none → h₀.get? a = none → BodyT w A env n h₀ T ((x, .lst a []) :: oldR hb ρ) rest r) : BodyT w A env n h₀ T ρ (.Assign [.Name x pos'] (.List [] p) pos :: rest) r := fun s F t =>
  wpAny_execs_cons (step_newList F hk hs fun a s' h1 h2 g k F' => (b _ a h1 h2).from F' (t.keep k) g)
theorem BT_forM {M T : List Addr} {x : Str} {px pos : Pos} {iter : PySem.Expr} {body more : List Stmt} {items : List PV} {pv r : PV} (I : Nat → List (Str × PV) → Prop)
    (he : ∀ h, Frm w A env n h₀ ρ h → EvalsTo w A env h iter pv) (hpv : Apart M pv) (hL : ∀ h v, Rep h pv v → Rep h (.list items) v) (hk : Storable env x) (i₀ : I 0 ρ) (hM : ∀ a ∈ M, ∀ h, Frm w A env n h₀ ρ h → Tabs T h → h.get? a ≠ none)
    (turn : ∀ i y ρ', I i ρ' → items[i]? = some y → Turn w A env n h₀ M T ((x, y) :: ρ') body (fun ρ'' => I (i + 1) ρ''))
    (fin : ∀ ρ', I items.length ρ' → BodyT w A env n h₀ T ρ' more r)
    (hs : ∀ x, foldedSetIterable iter env x = pure x) (hgo : ∀ it v, letOwnedTupleGo (.Name x px) it v = pure ()) : BodyT w A env n h₀ T ρ (.For (.Name x px) iter body [] pos :: more) r := fun s F t =>
  for_M (M := M) (T := T) I F t (he _ F) hpv hL hk i₀ (fun a ha => hM a ha _ F t) turn (fun s' ρ' g _ t' F' i => (fin ρ' i).from F' t' g) hs hgo
theorem BT_comp {T : List Addr} {ρ' : List (Str × PV)} {elt iter : PySem.Expr} {x y : Str} {px py spos : Pos} {ifs : List PySem.Expr} {scope : Scope} {cl : List (Str × Addr)} {pos : Pos} {own : Bool} {α : Type}
    {ns : List α} {P : α → PV} {q : α → Bool} {f : α → PV} {rest : List Stmt} {r : PV}
    (hsw : swapsWith (.ListComp elt [⟨.Name x px, iter, ifs, 0⟩] scope pos) (some (.Name y py)) spos.line env = pure true) (hy : env.kindOf y = some .local)
    (hclos : closureFor scope env = pure cl) (k : Carries env scope x cl ρ ρ') (hit : ∀ h, Frm w A env n h₀ ρ h → IterTo w A env h iter (ns.map P)) (hlen : ns.length ≤ sizeLine)
    (hkind : scope.kind = .function) (hnames : (scope.names.all fun y => y.2 != .local || scope.names.lookup y.1 == some .local) = true)
    (hcf : ∀ k, cellsFrom k scope.names cl = if own then (x, k) :: cl else cl)
    (hpush : ∀ h, pushCells h scope.names = if own then h.push { cls := .type "cell", data := .cell none } else h)
    (htgt : ∀ C, Tgt own (compEnvC scope (if own then (x, C + 1) :: cl else cl) C env) x) (hs : ∀ x, foldedSetIterable iter env x = pure x)
    (turn : ∀ a ∈ ns, ∀ C h', Sit w A (compEnvC scope (if own then (x, C + 1) :: cl else cl) C env) n ((x, P a) :: ρ') h' →
      TestsTo w A (compEnvC scope (if own then (x, C + 1) :: cl else cl) C env) h' ifs (q a) ∧ (q a = true → EltTo w A (compEnvC scope (if own then (x, C + 1) :: cl else cl) C env) h' elt (f a)))
    (b : BodyT w A env n h₀ T ((y, .list ((ns.filter q).map f)) :: ρ) rest r) :
    BodyT w A env n h₀ T ρ (.Assign [.Name y py] (.ListComp elt [⟨.Name x px, iter, ifs, 0⟩] scope pos) spos :: rest) r := by
  intro s F t
  exact wpAny_execs_cons (step_comp F hsw hy hclos k (hit _ F) hlen hkind hnames hcf hpush htgt hs (fun a ha C h' _ S => turn a ha C h' S) fun s' g kp F' => b.from F' (t.keep kp) g)
theorem BT_ret {T : List Addr} {e : PySem.Expr} {pos : Pos} {rest : List Stmt} {r : PV} (he : ∀ h, Frm w A env n h₀ ρ h → EvalsTo w A env h e r) : BodyT w A env n h₀ T ρ (.Return (some e) pos :: rest) r := by
  intro s F t
  refine wpAny_execs_cons (wpAny_Return_some ((he _ F).use (.refl _) fun v s' g p => ?_))
  exact ⟨v, rfl, g.same, F.ext.trans g.ext, t.ext g.ext, p⟩
/-- an if whose test is false and that has no else -/
theorem BT_ifFalse {T : List Addr} {t : PySem.Expr} {body rest : List Stmt} {pos : Pos} {r : PV} (ht : ∀ h, Frm w A env n h₀ ρ h → TestTo w A env h t false) (b : BodyT w A env n h₀ T ρ rest r) : BodyT w A env n h₀ T ρ (.If t body [] pos :: rest) r := by
  intro s F tb
  refine wpAny_execs_cons (wpAny_If ((ht _ F).use (.refl _) fun v s₁ g₁ p₁ => ?_))
  subst p₁
  exact wpAny_execs_nil (b.from (F.grow g₁.ext) (tb.ext g₁.ext) g₁.same)
/-- the first entry: a def of the text is called from outside -/
theorem Call_entry {name qual : Str} {params : Arguments} {body : List Stmt} {scope : Scope} {dV kV doc pm cdv ct oc : Value} {an od : Option Addr} {osl : Array (Option Value)} {f : Addr} {pvs : List PV} {r : PV} {names : List Str} {vs : List Value} {hb : Heap} {T : List Addr} {s : Shared} {R : Result → Shared → Prop}
    (g : Glo w hb) (e : Ext hb s.heap) (t : Tabs T s.heap) (rm : Rm A n) (hn : n ≤ 99)
    (ho : (kK w.params).lookup f = some ⟨oc, od, .func (fnOf name qual params body scope dV kV doc pm an cdv ct), osl⟩) (hcd : codeIn (kK w.params) cdv qual = true)
    (hbind : bindArgs (fnOf name qual params body scope dV kV doc pm an cdv ct) ⟨vs, []⟩ = pure (names.zip vs)) (rs : Reps s.heap pvs vs)
    (hloc : ∀ L, (names.all fun x => (scope.names.lookup x == some .local) || (scope.names.lookup x == some .cell && ((cellsFrom (L + 1) scope.names []).lookup x).isSome)) = true)
    (hco : scope.isCoroutine = false) (hgen : scope.isGenerator = false) (hk : scope.kind = .function)
    (hrev : names.Nodup) (hsz : hb.objs.size ≤ s.heap.objs.size)
    (b : ∀ L, BodyT w (A.deeper (envC qual scope L f cdv)) (envC qual scope L f cdv) (n + 1) hb T (names.zip pvs) body r)
    (hR : ∀ v s', Same s s' → Ext hb s'.heap → Tabs T s'.heap → Rep s'.heap r v → R (.ok (.ret v)) s') : codeAny (model PP w) A (.call (.ref f) ⟨vs, []⟩) R s := by
  have G := g.mono e
  have kinds : ∀ x ∈ names.zip vs, scope.names.lookup x.1 = some .local ∨ (scope.names.lookup x.1 = some .cell ∧ ((cellsFrom (s.heap.objs.size + 1) scope.names []).lookup x.1).isSome = true) := fun x hx => by
    have := List.all_eq_true.mp (hloc s.heap.objs.size) x.1 (List.of_mem_zip hx).1
    simpa using this
  refine codeAny_call_cells (fd := fnOf name qual params body scope dV kV doc pm an cdv ct) (body := body) (binds := names.zip vs) (rm.room (by (walk_at "my om"))) (G.X _ _ ho) rfl G.L (codeRec_of G.X hcd) rfl hbind rfl kinds (fun s₁ x => ?_) hco hgen hk
  have hE : callEnvC (fnOf name qual params body scope dV kV doc pm an cdv ct) s.heap.objs.size f = envC qual scope s.heap.objs.size f cdv := rfl
  rw [hE] at x ⊢
  obtain ⟨h₁, tk, hs₁, hk₁⟩ := x.done
  subst hs₁
  have F : Frm w (A.deeper (envC qual scope s.heap.objs.size f cdv)) (envC qual scope s.heap.objs.size f cdv) (n + 1) hb (names.zip pvs) h₁ :=
      { rm := rm.deeper _, hn := by (walk_at "my om"), fn := hk, eg := rfl, eb := rfl, glo0 := g, ext := e.trans hk₁, above := hsz, ns := ⟨_, x.toInCall.ns⟩,
        cells := fun y c e => ⟨Nat.le_trans hsz (Nat.le_of_lt (x.above y c (mem_of_lookup e))), _, x.cell y c e⟩, apart := fun y z c e e' => name_of_addr x.apart (mem_of_lookup e) (mem_of_lookup e'),
        look := fun y pv hx => by
          obtain ⟨v, r1, r2⟩ := repsLookup rs y pv hx
          refine ⟨v, Rep.mono hk₁ _ _ r1, ?_⟩
          obtain ⟨b1, b2⟩ := bind_get (k := (envC qual scope s.heap.objs.size f cdv).kindOf) names vs (fun _ => none) (fun _ => none) hrev r2
          have kd : scope.names.lookup y = some .local ∨ (scope.names.lookup y = some .cell ∧ ((cellsFrom (s.heap.objs.size + 1) scope.names []).lookup y).isSome = true) := kinds (y, v) (mem_of_lookup r2)
          have ke : (envC qual scope s.heap.objs.size f cdv).kindOf y = scope.names.lookup y := rfl
          rcases kd with q | ⟨q, hi⟩
          · exact .inl ⟨ke.trans q, _, x.toInCall.ns, b1 (ke.trans q)⟩
          · obtain ⟨c, hc⟩ := Option.isSome_iff_exists.mp hi
            have nl : ¬ (envC qual scope s.heap.objs.size f cdv).kindOf y = some .local := by rw [ke, q]; decide
            refine .inr ⟨.inl (ke.trans q), c, hc, ?_⟩
            have := x.cell y c hc
            rw [b2 nl] at this
            exact this }
  refine wpAny_mono (b s.heap.objs.size _ F (t.ext hk₁)) (fun f s' x => ?_) fun _ _ x => x.elim
  obtain ⟨v, rfl, g1, g2, g3, g4⟩ := x
  obtain ⟨hh, tk', rfl⟩ := g1
  exact hR v _ ⟨hh, tk', rfl⟩ g2 g3 g4
end
end
section
section
theorem codeAmong_more {p : Pos} {a b cv : Value} {i j : Int} {t u : Tok} (l : List Value) (h : TriplesOk l) (e : codeAmong p (l ++ [.int i t, .int j u, b]) = some cv) : codeAmong p l = some cv ∨ cv = b := by
  fun_induction TriplesOk l with
  | case1 =>
    simp [codeAmong] at e
    exact .inr e.2.symm
  | case2 x t y u z rest ih =>
    simp only [List.cons_append, codeAmong] at e ⊢
    split at e
    · rename_i q; rw [if_pos q]; exact .inl e
    · rename_i q; rw [if_neg q]; exact ih h e
  | case3 => exact h.elim
theorem triples_more {b : Value} {i j : Int} {t u : Tok} (l : List Value) (h : TriplesOk l) : TriplesOk (l ++ [.int i t, .int j u, b]) := by
  fun_induction TriplesOk l with
  | case1 => simp [TriplesOk]
  | case2 x t y u z rest ih =>
    simp only [List.cons_append, TriplesOk]
    exact ih h
  | case3 => exact h.elim
end
section
variable {w : World} {A : Around} {env : Env} {n : Nat} {h₀ h : Heap} {ρ : List (Str × PV)}
/-- what the making of a lambda in law wants -/
structure LamOk (h₀ : Heap) : Prop where
  C : PySem.W.CodeHd h₀ 118 116
  B : ∃ mg, h₀.Ns mainGlobals mg ∧ h₀.BuiltinsAt mg 116
  no : h₀.get? 116 = none
theorem builtinsAt_ext {h h' : Heap} {mg : Str → Option Value} {P : Addr} (x : h.BuiltinsAt mg P) (k : Ext h h') : h'.BuiltinsAt mg P :=
  let ⟨bm, o, a, b, c, d, e, f⟩ := x; ⟨bm, o, a, b, c, d, k _ _ e, f⟩
theorem none_at {h : Heap} {a : Addr} (q : h.objs.size ≤ a) : h.get? a = none := by
  cases e : h.get? a with
  | none => rfl
  | some o => exact absurd (Heap.lt_size e) (Nat.not_lt.mpr q)
noncomputable abbrev lamObj (params : Arguments) (body : PySem.Expr) (scope : Scope) (cl : List (Str × Addr)) (pm cv ctv : Value) : Obj := { cls := .type "function", data := .func (PySem.W.kla_fn "<lambda>" lamQ params body scope cl pm cv ctv) }
theorem lam_make {params : Arguments} {body : PySem.Expr} {scope : Scope} {pos : Pos} {s : Shared} {cl : List (Str × Addr)} {Q : Value → Shared → Prop} {E : Value → Shared → Prop} (hdef : defaultsOf params env = ([], [])) (hcl : closureFor scope env = pure cl) (eg : env.globals = mainGlobals)
    (hcode : env.code = .ref 118) (hq : env.qual ++ "<lambda>" = lamQ) (L : LamOk h₀) (e : Ext h₀ s.heap) (t : Tabs [116] s.heap)
    (h : ∀ f s' cv pm ctv, Same s s' → Heap.ExtBut 116 s.heap s'.heap → Tabs [116] s'.heap → s'.heap.get? f = some (lamObj params body scope cl pm cv ctv) → s'.heap.CodeRec cv lamQ → s.heap.get? f = none → Q (.ref f) s') :
    wpAny (model PP w) A (eval (.Lambda params body scope pos) env) Q E s := by
  refine PySem.W.kla_eval hdef ?_
  rw [hq]
  obtain ⟨mg, hg, hb⟩ := L.B
  have hg' : s.heap.Ns mainGlobals mg := hg.keeps e
  have hb' := builtinsAt_ext hb e
  have C' : PySem.W.CodeHd s.heap 118 116 := L.C.keeps e
  obtain ⟨ps, hP, ht, hc⟩ := t 116 (List.mem_singleton.mpr rfl)
  cases hf : codeAmong pos ps.toList with
  | some cv =>
    refine PySem.W.kla_makeFunctionHit hcl eg hg' hcode C' hP ht hf hb' fun ctv h' tk k hsz => ?_
    have kk : Ext s.heap (h'.push (lamObj params body scope cl ((mg "__name__").getD .none) cv ctv)) := fun b o q => Heap.get?_push_of_some _ (k b o q)
    refine h h'.objs.size _ cv _ ctv ⟨_, _, rfl⟩ (fun b o _ q => kk b o q) (t.ext kk) (Heap.get?_push_size _ rfl) ?_ (none_at hsz)
    obtain ⟨c, o, vs, u, e1, e2, e3⟩ := hc _ _ hf
    exact ⟨c, o, vs, u, e1, kk _ _ e2, e3⟩
  | none =>
    refine PySem.W.kla_makeFunction hcl eg hg' hcode C' hP ht hf (by decide) hb' fun c' ctv h' tk k hge hlt hrec hP' => ?_
    have kk : Heap.ExtBut 116 s.heap (h'.push (lamObj params body scope cl ((mg "__name__").getD .none) (.ref c') ctv)) := fun b o nb q => Heap.get?_push_of_some _ (k b o nb q)
    have up : Ext h' (h'.push (lamObj params body scope cl ((mg "__name__").getD .none) (.ref c') ctv)) := fun b o q => Heap.get?_push_of_some _ q
    have hrec' : (h'.push (lamObj params body scope cl ((mg "__name__").getD .none) (.ref c') ctv)).CodeRec (.ref c') lamQ := by
      obtain ⟨c, o, vs, u, e1, e2, e3⟩ := hrec
      exact ⟨c, o, vs, u, e1, up _ _ e2, e3⟩
    refine h h'.objs.size _ (.ref c') _ ctv ⟨_, _, rfl⟩ kk (fun P hPm => ?_) (Heap.get?_push_size _ rfl) hrec' (none_at (Nat.le_of_lt (Nat.lt_of_le_of_lt hge hlt)))
    rw [List.mem_singleton] at hPm
    subst hPm
    refine ⟨_, up _ _ hP', ?_, fun pos' cv' q => ?_⟩
    · rw [Array.toList_append]
      exact triples_more _ ht
    · rw [Array.toList_append] at q
      rcases codeAmong_more (a := .none) _ ht q with q | rfl
      · obtain ⟨c, o, vs, u, e1, e2, e3⟩ := hc _ _ q
        refine ⟨c, o, vs, u, e1, kk _ _ (fun z => ?_) e2, e3⟩
        subst z
        rw [hP] at e2
        cases e2
        obtain ⟨e3, e4⟩ := e3
        cases e3
        -- a table is no code
        have : ∀ l : List Value, TriplesOk l → l[1]? = some (.str lamQ u) → False := fun l => by
          fun_induction TriplesOk l with
          | case1 => intro _ q; cases q
          | case2 => intro _ q; cases q
          | case3 => intro q; exact q.elim
        exact (this ps.toList ht (by rw [Array.getElem?_toList]; exact e4)).elim
      · exact hrec'
/-- the closure of a lambda, as the names of a frame tell it -/
inductive Closes (env : Env) (scope : Scope) (cl : List (Str × Addr)) (ρ : List (Str × PV)) : List (Str × PV) → Prop
  | nil : Closes env scope cl ρ []
  | cons {y : Str} {pv : PV} {c : Addr} {rest : List (Str × PV)} : ρ.lookup y = some pv → env.cells.lookup y = some c → cl.lookup y = some c → env.kindOf y = some .cell → scope.names.lookup y = some .free → Closes env scope cl ρ rest → Closes env scope cl ρ ((y, pv) :: rest)
theorem Closes.get {scope : Scope} {cl : List (Str × Addr)} {ρ ρ' : List (Str × PV)} (k : Closes env scope cl ρ ρ') : ∀ y pv, ρ'.lookup y = some pv →
    ρ.lookup y = some pv ∧ ∃ c, env.cells.lookup y = some c ∧ cl.lookup y = some c ∧ env.kindOf y = some .cell ∧ scope.names.lookup y = some .free := by
  induction k with
  | nil => intro y pv e; cases e
  | @cons y' pv' c rest h1 h2 h3 h4 h5 _ ih =>
    intro y pv e
    rw [List.lookup_cons] at e
    cases hy : y == y' with
    | true =>
      rw [hy] at e
      have : y = y' := by simpa using hy
      subst this
      cases e
      exact ⟨h1, c, h2, h3, h4, h5⟩
    | false => rw [hy] at e; exact ih y pv e
theorem Call_lam {params : Arguments} {body : PySem.Expr} {scope : Scope} {cl : List (Str × Addr)} {pm cv ctv : Value} {f : Addr} {names : List Str} {pvs : List PV} {r : PV} {ρ' : List (Str × PV)} {A' : Around} {m : Nat}
    (S : Sit w A env n ρ h) (rm : Rm A' m) (hm : m ≤ 99) (ho : h.get? f = some (lamObj params body scope cl pm cv ctv)) (hcd : h.CodeRec cv lamQ) (k : Closes env scope cl ρ ρ')
    (hbind : ∀ vs : List Value, vs.length = pvs.length → bindArgs (PySem.W.kla_fn "<lambda>" lamQ params body scope cl pm cv ctv) ⟨vs, []⟩ = pure (names.zip vs))
    (hloc : (names.all fun x => decide (scope.names.lookup x = some .local)) = true) (hrev : names.Nodup)
    (hco : scope.isCoroutine = false) (hgen : scope.isGenerator = false) (hk : scope.kind = .function) (hcell : (scope.names.all fun x => x.2 != .cell) = true)
    (b : ∀ L h₁, Ext h h₁ → Sit w (A'.deeper (PySem.W.envX lamQ scope L f cv cl)) (PySem.W.envX lamQ scope L f cv cl) (m + 1) (names.zip pvs ++ ρ') h₁ → EvalsTo w (A'.deeper (PySem.W.envX lamQ scope L f cv cl)) (PySem.W.envX lamQ scope L f cv cl) h₁ body r) :
    CallTo w A' h (.ref f) pvs r := by
  intro h' k' vs rs s e
  have hs : Ext h s.heap := k'.trans e
  have rs' := Reps.mono e _ _ rs
  have S' := S.mono hs
  refine wpAny_call ?_
  have hcd' : s.heap.CodeRec cv lamQ := by
    obtain ⟨c, o, vs, u, e1, e2, e3⟩ := hcd
    exact ⟨c, o, vs, u, e1, hs _ _ e2, e3⟩
  refine PySem.W.kla_callFunE (fd := PySem.W.kla_fn "<lambda>" lamQ params body scope cl pm cv ctv) (rm.room (by (walk_at "my om"))) (hs _ _ ho) rfl hco hgen rfl hcd' ?_
  rw [hbind vs rs.length]
  refine wpAny_pure (wpAny_newFunctionEnv (fun x hx => by simpa using List.all_eq_true.mp hcell x hx) (fun x hx => of_decide_eq_true (List.all_eq_true.mp hloc x.1 (List.of_mem_zip hx).1)) (fun h₁ hns hsb => ⟨S'.glo.L.fresh _ hsb, ?_⟩) hk)
  have hk₁ : Ext s.heap h₁ := fun b o q => hsb.extBut b o (Nat.ne_of_lt (Heap.lt_size q)) (Heap.get?_push_of_some _ q)
  show codeAny _ _ (.expr body (PySem.W.envX lamQ scope s.heap.objs.size f cv cl)) _ _
  have S₁ : Sit w (A'.deeper (PySem.W.envX lamQ scope s.heap.objs.size f cv cl)) (PySem.W.envX lamQ scope s.heap.objs.size f cv cl) (m + 1) (names.zip pvs ++ ρ') h₁ :=
    { glo := S'.glo.mono hk₁, rm := rm.deeper _, hn := by (walk_at "my om"), fn := hk, eg := rfl, eb := rfl
      look := fun x pv hx => by
        rw [List.lookup_append] at hx
        cases q : (names.zip pvs).lookup x with
        | some p =>
          rw [q] at hx
          cases hx
          obtain ⟨v, r1, r2⟩ := repsLookup rs' x pv q
          refine ⟨v, Rep.mono hk₁ _ _ r1, .inl ⟨?_, _, hns, ?_⟩⟩
          · exact of_decide_eq_true (List.all_eq_true.mp hloc x (List.of_mem_zip (mem_of_lookup r2)).1)
          · rw [lookup_rev hrev]; exact r2
        | none =>
          rw [q] at hx
          obtain ⟨h1, c, h2, h3, h4, h5⟩ := k.get x pv hx
          obtain ⟨v, rv, sl⟩ := S'.look x pv h1
          refine ⟨v, Rep.mono hk₁ _ _ rv, .inr ⟨.inr h5, c, h3, ?_⟩⟩
          rcases sl with ⟨q1, _⟩ | ⟨_, c', hc', cc⟩
          · rw [h4] at q1; cases q1
          · rw [h2] at hc'; cases hc'; exact cc.keeps hk₁ }
  refine PySem.W.kla_codeExpr (wpAny_mono (b _ h₁ (hs.trans hk₁) S₁ { s with heap := h₁, toks := s.toks + (names.zip vs).length } (.refl _)) (fun v s' x => ?_) fun _ _ x => x.elim)
  obtain ⟨⟨hh, tk, rfl, q⟩, r'⟩ := x
  exact ⟨⟨hh, tk, rfl, hk₁.trans q⟩, r'⟩
theorem Kept.lam {f : Addr} {o : FuncData} {cls : Value} {d : Option Addr} {sl : Array (Option Value)} (ho : h.get? f = some ⟨cls, d, .func o, sl⟩) : Kept w h (.ref f) := fun h' k => PySem.W.keeps_F h' ⟨_, _, _, _, k _ _ ho⟩
end
end
section
section
variable {w : World} {A : Around} {env : Env} {n : Nat} {h₀ h : Heap} {ρ : List (Str × PV)}
theorem CallKw_raw {x : Str} {p pos kpos : Pos} {e kval : PySem.Expr} {es : List PySem.Expr} {f : Value} {kname : Str} {pvs : List PV} {hb : Heap} {s : Shared} {Q : Value → Shared → Prop} {E : Value → Shared → Prop} (hf : Ev w A (eval (.Name x p) env) s.heap fun u _ => u = f) (hk : Kept w hb f)
    (hargs : ArgsTo w A env s.heap pos (e :: es) pvs)
    (hlam : ∀ vs s₁, Grows s s₁ → Reps s₁.heap pvs vs → wpAny (model PP w) A (eval kval env) (fun kv s₂ => Ext hb s₂.heap ∧ wpAny (model PP w) A (call f vs [(kname, kv)]) Q E s₂) E s₁)
    (hst : starEach (e :: es) env = (false, eval e env) :: starEach es env) (hplain : (backTo pos (starEach (e :: es) env)).any (·.1) = false) :
    wpAny (model PP w) A (eval (.Call (.Name x p) (e :: es) [⟨some kname, kval, kpos⟩] pos) env) Q E s := by
  refine wpAny_Call_Name_kw (hf.use (.refl _) fun u s₁ g₁ r₁ => ?_)
  subst r₁
  refine callWith_of (P := fun h' => Ext hb h') (by rw [hplain]; rfl) hk ?_
  refine evalArgs_kw2 rfl ?_ hst
  refine hargs.use g₁.ext fun vs s₂ g₂ r₂ => ?_
  refine kwAll_cons (wpAny_mono (hlam vs s₂ (g₁.trans g₂) r₂) (fun kv s₃ h₃ => ?_) fun _ _ x => x)
  exact kwAll_nil h₃
/-- the table of the lambdas has grown -/
theorem Frm.tab {h' : Heap} {P : Addr} {ps : Array Value} (F : Frm w A env n h₀ ρ h) (hP : h.get? P = some (PySem.W.tabObj ps)) (k : Heap.ExtBut P h h') (h0 : h₀.get? P = none) : Frm w A env n h₀ ρ h' ∧ Still h h' := by
  have st : Still h h' := fun b o xs m e q => k b o (fun z => by subst z; rw [hP] at e; cases e; cases q) e
  have nsk : ∀ {m : Str → Option Value} {b : Addr}, h.Ns b m → h'.Ns b m := fun x => by
    obtain ⟨o, es, ep, e, d, r⟩ := x
    exact ⟨o, es, ep, k _ o (fun z => by subst z; rw [hP] at e; cases e; cases d) e, d, r⟩
  have ck : ∀ {b : Addr} {v : Option Value}, h.IsCell b v → h'.IsCell b v := fun x => by
    obtain ⟨o, e, d⟩ := x
    exact ⟨o, k _ o (fun z => by subst z; rw [hP] at e; cases e; cases d) e, d⟩
  refine ⟨{ F with
    ext := fun b o e => k b o (fun q => by subst q; rw [h0] at e; cases e) (F.ext b o e)
    ns := let ⟨m, x⟩ := F.ns; ⟨m, nsk x⟩
    cells := fun x c e => let ⟨x1, v, x2⟩ := F.cells x c e; ⟨x1, v, ck x2⟩
    look := fun x pv e => ?_ }, st⟩
  obtain ⟨v, r, sl⟩ := F.look x pv e
  refine ⟨v, Rep.still st _ _ r, ?_⟩
  rcases sl with ⟨k1, m, hm, hv⟩ | ⟨k1, c, hc, hv⟩
  · exact .inl ⟨k1, m, nsk hm, hv⟩
  · exact .inr ⟨k1, c, hc, ck hv⟩
/-- x.append(e), where the value of e may take a lambda -/
theorem Tn_append {M T : List Addr} {C : List (Str × PV) → Prop} {x : Str} {px apos pos epos : Pos} {e : PySem.Expr} {a : Addr} {xs : List PV} {pv : PV} {ρ' : List (Str × PV)} {more : List Stmt}
    (hx : ρ.lookup x = some (.lst a xs)) (hdb : (x == ("__debug__" : Str)) = false) (hcd : (x == ("__classdict__" : Str)) = false) (h0 : h₀.get? a = none) (ha : a ∈ M) (hf : Flat pv) (hxs : ∀ p ∈ xs, Apart [a] p) (hsz : xs.length < 1000000) (hρ : ∀ q ∈ ρ', ρ.lookup q.1 = some q.2 ∧ Apart [a] q.2)
    (hval : ∀ (s : Shared) (Q : Value → Shared → Prop), Frm w A env n h₀ ρ s.heap → Tabs T s.heap → (∀ v s', Same s s' → KeepX M s.heap s'.heap → Tabs T s'.heap → Frm w A env n h₀ ρ s'.heap → Rep s'.heap pv v → Q v s') → wpAny (model PP w) A (eval e env) Q (fun _ _ => False) s)
    (hsw : swapsWith (.Call (.Attribute (.Name x px) "append" apos) [e] [] pos) none epos.line env = pure false)
    (hbase : attributeBase (.Name x px) "append" env (eval (.Name x px) env) = eval (.Name x px) env) (hline : (apos.endLine == pos.line) = true)
    (hfew : ((backTo pos (starEach [e] env)).all (fun x => !x.1) && (backToKw pos (keywordEach [] env)).all (fun x => x.1.isSome)
      && decide (([e] : List PySem.Expr).length + ([] : List Keyword).length + (if ([] : List Keyword).isEmpty then 0 else 1) < 30)) = true)
    (hn : (([e] : List PySem.Expr).all fun e => !isStarred e) = true) (hplain : (backTo pos (starEach [e] env)).any (·.1) = false) (hst : starEach [e] env = (false, eval e env) :: starEach [] env) (hint : interactive env = false)
    (b : Turn w A env n h₀ M T ((x, .lst a (xs ++ [pv])) :: ρ') more C) : Turn w A env n h₀ M T ρ (.Expr (.Call (.Attribute (.Name x px) "append" apos) [e] [] pos) epos :: more) C := by
  refine Tn_step fun s F t => wpAny_Expr_any ?_ hint hsw
  refine Meth_raw (x := .lst a xs) (T := "list") (id := "list.append") (E_Name F.sit hx hdb hcd) (lst_type _ _) PySem.F.plainAttrs_list PySem.F.slot_list_append PySem.F.type_list_append (lst_dict _ _) (fun ov s₁ g₁ r₁ => ?_) hbase hline hfew hn hplain
  have F₁ := F.grow g₁.ext
  refine args_cons ?_ hst
  refine hval s₁ _ F₁ (t.ext g₁.ext) fun v s₂ g₂ k₂ t₂ F₂ r₂ => ?_
  refine args_nil ?_
  obtain ⟨rfl, _, _, _⟩ := rep_lst r₁
  obtain ⟨v', r', sl⟩ := F₂.look x _ hx
  obtain ⟨rfl, vs, hp, rs⟩ := rep_lst r'
  have hl : vs.length = xs.length := rs.length
  refine wpAny_list_append_plain hp (fun h' hp' hs' => ?_) (by rw [List.size_toArray, hl]; exact Nat.le_trans (Nat.le_of_lt hsz) (Nat.le_of_ble_eq_true rfl))
  have hr : Rep h' (.lst a (xs ++ [pv])) (.ref a) := by
    refine .mkLst (vs := vs ++ [v]) (by rw [← List.push_toArray]; exact hp') ?_
    exact (aparts (M := [a]) (StillX.of hs'.extBut List.mem_cons_self) hxs rs).append (Reps.single (hf.rep r₂))
  have F₃ := F₂.mutate hx hs'.extBut h0 hr hρ
  exact ⟨rfl, (g₁.same.trans g₂).trans ⟨_, _, rfl⟩, ((g₁.ext.keep.x).trans k₂).trans (KeepX.of hs'.extBut ha), t₂.but hs'.extBut hp, _, F₃, b⟩
end
end
section
section
variable {w : World} {A : Around} {env : Env} {n : Nat} {h₀ h : Heap} {ρ : List (Str × PV)}
theorem Apart.old' {M : List Addr} {hb : Heap} {x : PV} (hM : ∀ a ∈ M, ∀ o xs n, hb.get? a = some o → o.data ≠ .seq xs n) : Apart M (.old hb x) := fun h h' v k r => by
  simp only [Rep] at r ⊢
  exact ⟨fun b o xs n e q => k b o xs n (fun m => hM b m _ _ _ e q) (r.1 b o xs n e q) q, r.2⟩
theorem step_swappedX {elts : List PySem.Expr} {k : Nat} {tpos pos : Pos} {e : PySem.Expr} {names : List Str} {s : Shared} {Q : Flow → Shared → Prop} {E : Value → Shared → Prop} {Good : List PV → Prop}
    (F : Frm w A env n h₀ ρ s.heap) (he : Ev w A (eval e env) s.heap fun v h' => ∃ pvs, Good pvs ∧ names.length = pvs.length ∧ Rep h' (.tuple pvs) v) (hst : ∀ q ∈ names, Storable env q)
    (hs : swapsWithSole [.Tuple elts k tpos] e pos.line env = pure false) (hw : swappedStores [.Tuple elts k tpos] e env = pure (some names))
    (h : ∀ pvs s', Good pvs → Same s s' → Keep s.heap s'.heap → Frm w A env n h₀ (names.zip pvs ++ ρ) s'.heap → Q .next s') : wpAny (model PP w) A (exec (.Assign [.Tuple elts k tpos] e pos) env) Q E s := by
  refine Assign_Tuple_swapped (he.use (.refl _) fun v s₁ g₁ r₁ => ?_) hs hw
  obtain ⟨pvs, good, hlen, r₁⟩ := r₁
  refine unpackItems_pv F.rm.h Seqs.t r₁ (fun vs s₂ g₂ r₂ => ?_) hlen
  have F₂ := F.grow (g₁.trans g₂).ext
  have hz : ((names.zip pvs).reverse).map (·.2) = pvs.reverse := by rw [List.map_reverse, List.map_snd_zip (by simp [hlen])]
  have rr : Reps s₂.heap pvs.reverse vs.reverse := by
    refine Reps.of_get (by simp [r₂.length]) fun i x v h1 h2 => ?_
    have hi : i < pvs.length := by
      rcases Nat.lt_or_ge i pvs.length with q | q
      · exact q
      · rw [List.getElem?_eq_none (by simpa using q)] at h1; cases h1
    rw [List.getElem?_reverse (by exact hi)] at h1
    rw [List.getElem?_reverse (by rw [r₂.length]; exact hi), r₂.length] at h2
    obtain ⟨u, e1, e2⟩ := r₂.get _ x h1
    rw [h2] at e1; cases e1; exact e2
  refine storeAll (names.zip pvs).reverse _ vs.reverse ρ s₂ _ (by simp [hlen]) (fun i f q h1 h2 M v s Q hh => ?_) (fun q hq => ?_) (by rw [hz]; exact rr) F₂ fun s' g _ kp F' => h pvs s' good ((g₁.trans g₂).same.trans g) ((g₁.trans g₂).ext.keep.trans kp) (by rwa [List.reverse_reverse] at F')
  · have hi : i < names.length := by
      rcases Nat.lt_or_ge i names.length with q | q
      · exact q
      · rw [List.getElem?_eq_none (by simpa using q)] at h1; cases h1
    rw [List.getElem?_map, List.getElem?_reverse hi] at h1
    rw [List.getElem?_reverse (by simp [← hlen, hi])] at h2
    rw [List.getElem?_zip_eq_some] at h2
    obtain ⟨h2, _⟩ := h2
    simp only [List.length_zip, ← hlen, Nat.min_self] at h2
    rw [h2] at h1
    cases h1
    exact wpAny_bindName hh
  · have := (List.of_mem_zip (List.mem_reverse.mp hq)).1
    exact hst _ this
theorem Ev_two {p1 p2 p3 : Pos} {k : Nat} : Ev w A (eval (.Tuple [.List [] p1, .List [] p2] k p3) env) h fun v h' => ∃ pvs, (∃ a1 a2, pvs = [PV.lst a1 [], .lst a2 []] ∧ a1 ≠ a2 ∧ h.get? a1 = none ∧ h.get? a2 = none) ∧ 2 = pvs.length ∧ Rep h' (.tuple pvs) v := by
  intro s e
  refine Tuple_ (args_cons ((E_ListF (h := s.heap) A_nil (by decide)).use (.refl _) fun v1 s₁ g₁ r₁ => args_cons ((E_ListF (h := s₁.heap) A_nil (by decide)).use (.refl _) fun v2 s₂ g₂ r₂ => args_nil ?_) rfl) rfl)
  obtain ⟨a1, h1, q1⟩ := Rep.ofFresh r₁
  obtain ⟨a2, h2, q2⟩ := Rep.ofFresh r₂
  refine wpAny_newObj_type ?_ (by show 2 ≤ sizeLine; decide)
  have kk := Ext.push s₂.heap { cls := .type "tuple", data := .seq [v1, v2].toArray }
  refine ⟨(g₁.trans g₂).trans (.heap' kk), _, ⟨a1, a2, rfl, fun q => ?_, none_back e h1, none_back (e.trans g₁.ext) h2⟩, rfl, .mkTuple ⟨_, Heap.get?_push_size _ rfl, rfl, _, rfl⟩ (.cons (Rep.mono (g₂.ext.trans kk) _ _ q1) (.cons (Rep.mono kk _ _ q2) .nil))⟩
  subst q
  obtain ⟨rfl, us, ⟨m, e'⟩, _⟩ := rep_lst q1
  rw [e'] at h2; cases h2
theorem BT_new2 {T : List Addr} {x y : Str} {px py p1 p2 p3 tpos pos : Pos} {k k' : Nat} {more : List Stmt} {r : PV} (hx : Storable env x) (hy : Storable env y)
    (hs : swapsWithSole [.Tuple [.Name x px, .Name y py] k tpos] (.Tuple [.List [] p1, .List [] p2] k' p3) pos.line env = pure false) (hw : swappedStores [.Tuple [.Name x px, .Name y py] k tpos] (.Tuple [.List [] p1, .List [] p2] k' p3) env = pure (some [x, y]))
    (b : ∀ hq a1 a2, a1 ≠ a2 → hq.get? a1 = none → hq.get? a2 = none → h₀.get? a1 = none → h₀.get? a2 = none → Tabs T hq → BodyT w A env n h₀ T ((x, .lst a1 []) :: (y, .lst a2 []) :: oldR hq ρ) more r) :
    BodyT w A env n h₀ T ρ (.Assign [.Tuple [.Name x px, .Name y py] k tpos] (.Tuple [.List [] p1, .List [] p2] k' p3) pos :: more) r := by
  intro s F t
  refine wpAny_execs_cons (step_swappedX F.old Ev_two (fun q hq => ?_) hs hw fun pvs s' good g kp F' => ?_)
  · exact fm hx (fm hy fm0) q hq
  · obtain ⟨a1, a2, rfl, hne, h1, h2⟩ := good
    exact (b s.heap a1 a2 hne h1 h2 (none_back F.ext h1) (none_back F.ext h2) t).from F' (t.keep kp) g
theorem Tabs.notSeq {T : List Addr} {h : Heap} (t : Tabs T h) {P : Addr} (hP : P ∈ T) : ∀ o xs n, h.get? P = some o → o.data ≠ .seq xs n := fun o xs n e => by
  obtain ⟨ps, e', _⟩ := t P hP
  rw [e] at e'; cases e'; nofun
theorem E_not {e : PySem.Expr} {pos : Pos} {b : Bool} (he : EvalsTo w A env h e (.bool b)) : EvalsTo w A env h (.UnaryOp .Not e pos) (.bool (!b)) := by
  intro s k
  refine wpAny_UnaryOp (he.use k fun v s₁ g₁ r₁ => not_of ?_)
  rw [rep_bool r₁]
  exact wpAny_truthy_bool ⟨g₁, .mkBool _⟩
theorem E_And {x y : PySem.Expr} {pos : Pos} {b : Bool} (hx : EvalsTo w A env h x (.bool true)) (hy : EvalsTo w A env h y (.bool b)) : EvalsTo w A env h (.BoolOp .And [x, y] pos) (.bool b) := by
  intro s e
  refine wpAny_And2 (hx.use e fun v s₁ g₁ r₁ => ?_)
  rw [rep_bool r₁]
  refine wpAny_truthy_bool ?_
  exact hy.use (e.trans g₁.ext) fun v s₂ g₂ r₂ => ⟨g₁.trans g₂, r₂⟩
end
end
section
section
noncomputable def Srt (l : List Int) : Prop := l.Pairwise (· ≤ ·)
theorem srt_get {l : List Int} (h : Srt l) {i j : Nat} (hij : i ≤ j) (hj : j < l.length) : l.getD i 0 ≤ l.getD j 0 := by
  rw [List.getD_eq_getElem?_getD, List.getD_eq_getElem?_getD, List.getElem?_eq_getElem hj, List.getElem?_eq_getElem (Nat.lt_of_le_of_lt hij hj)]
  rcases Nat.lt_or_ge i j with q | q
  · exact List.pairwise_iff_getElem.mp h i j _ _ q
  · have : i = j := by (walk_at "my om")
    subst this; exact Int.le_refl _
theorem bis_ins {l : List Int} (h : Srt l) (x : Int) : bis (fun i => decide (x < l.getD i 0)) 0 l.length ≤ l.length ∧ (∀ i, i < bis (fun i => decide (x < l.getD i 0)) 0 l.length → l.getD i 0 ≤ x) ∧ (∀ i, bis (fun i => decide (x < l.getD i 0)) 0 l.length ≤ i → i < l.length → x < l.getD i 0) := by
  obtain ⟨_, b, c, d⟩ := bis_spec (fun i => decide (x < l.getD i 0)) l.length 0 l.length (by (walk_at "my om")) (by (walk_at "my om")) (fun i j _ h2 h3 hp => by
    have := srt_get h h2 h3
    have := of_decide_eq_true hp
    exact decide_eq_true (by (walk_at "my om")))
  refine ⟨b, fun i hi => ?_, fun i h1 h2 => of_decide_eq_true (d i h1 h2)⟩
  have := of_decide_eq_false (c i (by (walk_at "my om")) hi)
  (walk_at "my om")
theorem ins_srt {l : List Int} (h : Srt l) (x : Int) : Srt (insR l x) := by
  obtain ⟨h1, h2, h3⟩ := bis_ins h x
  unfold insR insI
  generalize bis (fun i => decide (x < l.getD i 0)) 0 l.length = k at *
  refine List.pairwise_append.mpr ⟨h.sublist (List.take_sublist _ _), List.pairwise_cons.mpr ⟨fun a ha => ?_, h.sublist (List.drop_sublist _ _)⟩, fun a ha b hb => ?_⟩
  · obtain ⟨i, hi, e⟩ := List.getElem_of_mem ha
    rw [List.getElem_drop] at e
    rw [List.length_drop] at hi
    have := h3 (k + i) (by (walk_at "my om")) (by (walk_at "my om"))
    rw [List.getD_eq_getElem?_getD, List.getElem?_eq_getElem (by (walk_at "my om"))] at this
    simp only [Option.getD_some] at this
    (walk_at "my om")
  · obtain ⟨i, hi, e⟩ := List.getElem_of_mem ha
    rw [List.getElem_take] at e
    rw [List.length_take] at hi
    have hax := h2 i (by (walk_at "my om"))
    rw [List.getD_eq_getElem?_getD, List.getElem?_eq_getElem (by (walk_at "my om"))] at hax
    simp only [Option.getD_some] at hax
    rcases List.mem_cons.mp hb with rfl | hb
    · (walk_at "my om")
    · obtain ⟨j, hj, e'⟩ := List.getElem_of_mem hb
      rw [List.getElem_drop] at e'
      rw [List.length_drop] at hj
      have := h3 (k + j) (by (walk_at "my om")) (by (walk_at "my om"))
      rw [List.getD_eq_getElem?_getD, List.getElem?_eq_getElem (by (walk_at "my om"))] at this
      simp only [Option.getD_some] at this
      (walk_at "my om")
theorem ins_perm (l : List Int) (x : Int) : (insR l x).Perm (x :: l) := by
  unfold insR insI
  generalize bis (fun i => decide (x < l.getD i 0)) 0 l.length = k
  have : (l.take k ++ x :: l.drop k).Perm (x :: (l.take k ++ l.drop k)) := List.perm_middle
  rwa [List.take_append_drop] at this
theorem fold_ins : ∀ (ms l : List Int), Srt l → Srt (ms.foldl insR l) ∧ (ms.foldl insR l).Perm (ms ++ l)
  | [], l, h => ⟨h, .refl _⟩
  | m :: ms, l, h => by
    obtain ⟨h1, h2⟩ := fold_ins ms (insR l m) (ins_srt h m)
    refine ⟨h1, h2.trans ?_⟩
    refine ((ins_perm l m).append_left ms).trans ?_
    exact List.perm_middle
/-- how many are at most m -/
theorem bis_count {l : List Int} (h : Srt l) (m : Int) : bis (fun i => decide (m < l.getD i 0)) 0 l.length = (l.filter fun k => decide (k ≤ m)).length := by
  obtain ⟨h1, h2, h3⟩ := bis_ins h m
  generalize bis (fun i => decide (m < l.getD i 0)) 0 l.length = k at *
  have e1 : (l.take k).filter (fun k => decide (k ≤ m)) = l.take k := List.filter_eq_self.mpr fun a ha => by
    obtain ⟨i, hi, e⟩ := List.getElem_of_mem ha
    rw [List.getElem_take] at e
    rw [List.length_take] at hi
    have := h2 i (by (walk_at "my om"))
    rw [List.getD_eq_getElem?_getD, List.getElem?_eq_getElem (by (walk_at "my om"))] at this
    simp only [Option.getD_some] at this
    exact decide_eq_true (by (walk_at "my om"))
  have e2 : (l.drop k).filter (fun k => decide (k ≤ m)) = [] := List.filter_eq_nil_iff.mpr fun a ha => by
    obtain ⟨i, hi, e⟩ := List.getElem_of_mem ha
    rw [List.getElem_drop] at e
    rw [List.length_drop] at hi
    have := h3 (k + i) (by (walk_at "my om")) (by (walk_at "my om"))
    rw [List.getD_eq_getElem?_getD, List.getElem?_eq_getElem (by (walk_at "my om"))] at this
    simp only [Option.getD_some] at this
    simp
    (walk_at "my om")
  have : (l.filter fun k => decide (k ≤ m)) = l.take k := by
    conv => lhs; rw [← List.take_append_drop k l]
    rw [List.filter_append, e1, e2, List.append_nil]
  rw [this, List.length_take, Nat.min_eq_left h1]
noncomputable def dueC (ms p : List Int) : Nat := match p with
  | [h, s, v] => if s = 0 then 48 + v.toNat else 97 + (ms.filter fun k => decide (k ≤ (h * 9 + s) * 5 + v)).length % 3
  | _ => 0
/-- a point as the law draws it -/
noncomputable def PtOk (p : List Int) : Prop := ∃ h s v, p = [h, s, v] ∧ 0 ≤ h ∧ h < 64 ∧ 0 ≤ s ∧ s < 9 ∧ 1 ≤ v ∧ v ≤ 4
theorem str14 {v : Int} (h1 : 1 ≤ v) (h2 : v ≤ 4) : ((toString v : String) : Str) = chS (48 + v.toNat) := by
  have : v = 1 ∨ v = 2 ∨ v = 3 ∨ v = 4 := by (walk_at "my om")
  rcases this with rfl | rfl | rfl | rfl <;> decide +kernel
theorem letter_nat (k : Nat) : letter (k : Int) = chS (97 + k % 3) := by
  unfold letter chS
  congr 3
theorem sgn_due {ms : List Int} {h s v : Int} (h1 : 1 ≤ v) (h2 : v ≤ 4) : sgnOf (dueN h s v) ms = chS (dueC ms [h, s, v]) := by
  unfold dueN dueC
  by_cases q : s = 0
  · rw [if_pos q]
    simp only [sgnOf, q, if_true]
    exact str14 h1 h2
  · rw [if_neg q]
    simp only [sgnOf, q, if_false]
    exact letter_nat _
theorem sgn_told {ms bs : List Int} {h s v : Int} (h1 : 1 ≤ v) (h2 : v ≤ 4) (hs : Srt bs) (hp : bs.Perm ms) (hsv : Bool) : signR hsv (dueN h s v) bs = chS (dueC ms [h, s, v]) := by
  unfold dueN dueC
  by_cases q : s = 0
  · rw [if_pos q]
    simp only [signR, q, if_true]
    exact str14 h1 h2
  · rw [if_neg q]
    simp only [signR, q, if_false]
    rw [← letter_nat]
    have e1 : bis (fun i => !decide (bs.getD i 0 < (h * 9 + s) * 5 + v + 1)) 0 bs.length = bis (fun i => decide ((h * 9 + s) * 5 + v < bs.getD i 0)) 0 bs.length := by
      congr 1
      funext i
      rw [Bool.eq_iff_iff]; simp; (walk_at "my om")
    have e2 := (hp.filter fun k => decide (k ≤ (h * 9 + s) * 5 + v)).length_eq
    rw [e1, bis_count hs, e2]
    cases hsv <;> rfl
noncomputable def numsOf (xs : List Int) : List Int := (xs.take 6 ++ [2240, 9792, 19264, 4576].drop xs.length).map (· % 1000000000)
noncomputable def markI (nums : List Int) (k : Nat) : Int := ([240, 1200, 2160].getD k 0 + ((pickL nums (some (k : Int)) none (some 3)).map (· / 36864)).sum) % 2880
noncomputable def marksI (nums : List Int) : List Int := (List.range 3).map (markI nums)
noncomputable def bordI (nums : List Int) : List Int := (marksI nums).foldl insR []
noncomputable def ptsI (nums : List Int) : List (List Int) := patsI (pickL nums (some (nums.sum % 2)) none (some 2))
noncomputable def txC (nums : List Int) : List Nat := nums.map fun x => dueC (marksI nums) (ptI x)
noncomputable def paC (nums : List Int) : List Nat := (ptsI nums).map (dueC (marksI nums))
theorem bord_srt (nums : List Int) : Srt (bordI nums) := (fold_ins _ [] List.Pairwise.nil).1
theorem bord_perm (nums : List Int) : (bordI nums).Perm (marksI nums) := by
  have := (fold_ins (marksI nums) [] List.Pairwise.nil).2
  rwa [List.append_nil] at this
theorem nums_len (xs : List Int) : 4 ≤ (numsOf xs).length ∧ (numsOf xs).length ≤ 6 := by
  unfold numsOf
  rw [List.length_map, List.length_append, List.length_take, List.length_drop]
  simp only [List.length_cons, List.length_nil]
  omega/-k-/
theorem nums_range {xs : List Int} : ∀ x ∈ numsOf xs, 0 ≤ x ∧ x < 1000000000 := fun x hx => by
  obtain ⟨y, _, rfl⟩ := List.mem_map.mp hx
  (walk_at "my om")
theorem pt_ok (x : Int) : PtOk (ptI x) := ⟨_, _, _, rfl, by (walk_at "my om"), by (walk_at "my om"), by (walk_at "my om"), by (walk_at "my om"), by (walk_at "my om"), by (walk_at "my om")⟩
theorem pat_ok (x : Int) : ∀ p ∈ patI x, PtOk p := fun p hp => by
  unfold patI at hp
  have w : PtOk [0, 0, 4] := ⟨_, _, _, rfl, by (walk_at "my om"), by (walk_at "my om"), by (walk_at "my om"), by (walk_at "my om"), by (walk_at "my om"), by (walk_at "my om")⟩
  have o : PtOk (otI x) := ⟨_, _, _, rfl, by (walk_at "my om"), by (walk_at "my om"), by (walk_at "my om"), by (walk_at "my om"), by (walk_at "my om"), by (walk_at "my om")⟩
  split at hp
  · rw [List.mem_singleton] at hp; subst hp; exact pt_ok x
  · split at hp
    · rw [List.mem_singleton] at hp; subst hp; exact w
    · split at hp
      · simp only [List.mem_cons, List.mem_nil_iff, or_false] at hp
        rcases hp with rfl | rfl
        · exact w
        · exact pt_ok x
      · split at hp
        · rw [List.mem_singleton] at hp; subst hp; exact o
        · cases hp
theorem pts_ok (nums : List Int) : ∀ p ∈ ptsI nums, PtOk p := fun p hp => by
  obtain ⟨x, _, h⟩ := List.mem_flatMap.mp hp
  exact pat_ok x p h
theorem due_no46 {ms p : List Int} (h : PtOk p) : dueC ms p ≠ 46 := by
  obtain ⟨a, s, v, rfl, _⟩ := h
  unfold dueC
  dsimp only
  split <;> (walk_at "my om")
theorem pa_no46 (nums : List Int) : No46 (paC nums) := fun c hc => by
  obtain ⟨p, hp, rfl⟩ := List.mem_map.mp hc
  exact due_no46 (pts_ok nums p hp)
theorem pts_len (nums : List Int) : (ptsI nums).length ≤ 2 * nums.length := by
  have h1 := patsI_len (pickL nums (some (nums.sum % 2)) none (some 2))
  have h2 : (pickL nums (some (nums.sum % 2)) none (some 2)).length ≤ nums.length := pickL_len
  unfold ptsI
  (walk_at "my om")
theorem expand_len (p : List Nat) : (expand p).length ≤ 3 * p.length := by
  induction p with
  | nil => simp [expand]
  | cons c p ih =>
    have : expand (c :: p) = (if c = 52 then [46, 46, 46] else [c]) ++ expand p := rfl
    rw [this, List.length_append, List.length_cons]
    split <;> (simp; (walk_at "my om"))
noncomputable def cutT (tx : List Nat) (m e : Nat) : Str := mkS ((tx.take e).drop m)
theorem fit_eq {tx pa : List Nat} (h46 : No46 pa) {m e : Nat} (hm : m ≤ e) (he : e ≤ tx.length) : ellB (mkS (expand pa)) (cutT tx m e) = decide (e ∈ endsOf tx pa m) := by
  rw [Bool.eq_iff_iff, decide_eq_true_eq]
  unfold cutT
  rw [ell_law h46, ends_one tx pa m e (by (walk_at "my om")) he]
  exact ⟨fun h => ⟨hm, h⟩, fun h => h.2⟩
theorem expand_snoc (pa : List Nat) : mkS (expand pa) ++ dots = mkS (expand (pa ++ [52])) := by
  have : expand (pa ++ [52]) = expand pa ++ [46, 46, 46] := by unfold expand; rw [List.flatMap_append]; rfl
  rw [this]
  have e : dots = mkS [46, 46, 46] := by decide +kernel
  rw [e]
  unfold mkS
  show (⟨(expand pa).toArray ++ [46, 46, 46].toArray⟩ : Str) = _
  congr 1
  simp
theorem expand_consS (pa : List Nat) : dots ++ mkS (expand pa) = mkS (expand (52 :: pa)) := by
  have : expand (52 :: pa) = [46, 46, 46] ++ expand pa := rfl
  rw [this]
  have e : dots = mkS [46, 46, 46] := by decide +kernel
  rw [e]
  unfold mkS
  show (⟨[46, 46, 46].toArray ++ (expand pa).toArray⟩ : Str) = _
  congr 1
  simp
noncomputable def nearP (tx pa : List Nat) (m i : Nat) : Bool := ellB (mkS (expand pa) ++ dots) (cutT tx m i)
noncomputable def farP (tx pa : List Nat) (p i : Nat) : Bool := !ellB (dots ++ mkS (expand pa)) (cutT tx i p)
theorem near_eq {tx pa : List Nat} (h46 : No46 pa) {m i : Nat} (hm : m ≤ i) (hi : i ≤ tx.length) : nearP tx pa m i = true ↔ ∃ x ∈ endsOf tx pa m, x ≤ i := by
  unfold nearP cutT
  rw [expand_snoc, ell_law (fun c hc => by
    rcases List.mem_append.mp hc with q | q
    · exact h46 c q
    · rw [List.mem_singleton] at q; (walk_at "my om")), near_iff tx pa m i hm hi]
theorem far_eq {tx pa : List Nat} (h46 : No46 pa) {i p : Nat} (hm : i ≤ p) (hi : p ≤ tx.length) : farP tx pa p i = false ↔ ∃ x, i ≤ x ∧ x ≤ p ∧ p ∈ endsOf tx pa x := by
  unfold farP cutT
  rw [Bool.not_eq_false', expand_consS, ell_law (fun c hc => by
    rcases List.mem_cons.mp hc with q | q
    · (walk_at "my om")
    · exact h46 c q), far_iff tx pa i p hm hi]
noncomputable def nearest (tx pa : List Nat) (m : Nat) : Nat := bis (nearP tx pa m) m (tx.length + 1)
noncomputable def farthest (tx pa : List Nat) (p : Nat) : Nat := bis (farP tx pa p) 0 p
theorem nearest_spec {tx pa : List Nat} (h46 : No46 pa) {m : Nat} (hm : m ≤ tx.length) : nearest tx pa m ∈ endsOf tx pa m ++ [tx.length + 1] ∧ ∀ a ∈ endsOf tx pa m ++ [tx.length + 1], nearest tx pa m ≤ a := by
  obtain ⟨a, b, c, d⟩ := bis_spec (nearP tx pa m) (tx.length + 1 - m) m (tx.length + 1) (by (walk_at "my om")) (by (walk_at "my om")) (fun i j h1 h2 h3 hp => by
    rw [near_eq h46 (by (walk_at "my om")) (by (walk_at "my om"))] at hp ⊢
    obtain ⟨x, hx, hxi⟩ := hp
    exact ⟨x, hx, by (walk_at "my om")⟩)
  have hends : ∀ x ∈ endsOf tx pa m, m ≤ x ∧ x ≤ tx.length := fun x hx => by
    have h2 := ends_le tx pa m hm x hx
    exact ⟨((ends_one tx pa m x hm h2).mp hx).1, h2⟩
  have hmin : ∀ x ∈ endsOf tx pa m, nearest tx pa m ≤ x := fun x hx => by
    obtain ⟨h1, h2⟩ := hends x hx
    rcases Nat.lt_or_ge x (nearest tx pa m) with q | q
    · have := c x h1 q
      rw [(near_eq h46 h1 h2).mpr ⟨x, hx, Nat.le_refl _⟩] at this
      cases this
    · exact q
  refine ⟨?_, fun x hx => ?_⟩
  · rcases Nat.lt_or_ge tx.length (nearest tx pa m) with q | q
    · have : nearest tx pa m = tx.length + 1 := by unfold nearest at *; (walk_at "my om")
      rw [this]; simp
    · obtain ⟨x, hx, hxe⟩ := (near_eq h46 a (by unfold nearest at *; (walk_at "my om"))).mp (d (nearest tx pa m) (Nat.le_refl _) (by (walk_at "my om")))
      have : x = nearest tx pa m := Nat.le_antisymm hxe (hmin x hx)
      rw [← this]
      exact List.mem_append_left _ hx
  · rcases List.mem_append.mp hx with q | q
    · exact hmin x q
    · rw [List.mem_singleton] at q; subst q; exact b
noncomputable def farL (tx pa : List Nat) (p : Nat) : List Nat := ((List.range (tx.length + 1)).filter fun m => decide (p ∈ endsOf tx pa m)).map (· + 1)
theorem farthest_spec {tx pa : List Nat} (h46 : No46 pa) {p M : Nat} (hp : p ≤ tx.length) (hM : M ∈ farL tx pa p ++ [0]) (hmax : ∀ a ∈ farL tx pa p ++ [0], a ≤ M) : farthest tx pa p = min p M := by
  obtain ⟨_, b, c, d⟩ := bis_spec (farP tx pa p) p 0 p (by (walk_at "my om")) (by (walk_at "my om")) (fun i j _ h2 h3 hpi => by
    cases q : farP tx pa p j with
    | true => rfl
    | false =>
      obtain ⟨x, h4, h5⟩ := (far_eq h46 (by (walk_at "my om")) hp).mp q
      rw [(far_eq h46 (by (walk_at "my om")) hp).mpr ⟨x, by (walk_at "my om"), h5⟩] at hpi
      cases hpi)
  have hst : ∀ x, x ≤ p → p ∈ endsOf tx pa x → x + 1 ≤ M := fun x hx he => hmax _ (List.mem_append_left _ (List.mem_map.mpr ⟨x, List.mem_filter.mpr ⟨List.mem_range.mpr (by (walk_at "my om")), decide_eq_true he⟩, rfl⟩))
  have up : farthest tx pa p ≤ M := by
    rcases Nat.lt_or_ge M (farthest tx pa p) with q | q
    · obtain ⟨x, h1, h2, h3⟩ := (far_eq h46 (by unfold farthest at *; (walk_at "my om")) hp).mp (c M (by (walk_at "my om")) q)
      have := hst x h2 h3
      (walk_at "my om")
    · exact q
  have lo : min p M ≤ farthest tx pa p := by
    rcases Nat.lt_or_ge (farthest tx pa p) (min p M) with q | q
    · exfalso
      have h1 := d (farthest tx pa p) (Nat.le_refl _) (by (walk_at "my om"))
      rcases List.mem_append.mp hM with z | z
      · obtain ⟨X, hX, e⟩ := List.mem_map.mp z
        obtain ⟨hX1, hX2⟩ := List.mem_filter.mp hX
        have hX3 := of_decide_eq_true hX2
        have hX4 : X ≤ tx.length := by have := List.mem_range.mp hX1; (walk_at "my om")
        have hXp := ((ends_one tx pa X p hX4 hp).mp hX3).1
        rw [(far_eq h46 (by (walk_at "my om")) hp).mpr ⟨X, by (walk_at "my om"), hXp, hX3⟩] at h1
        cases h1
      · rw [List.mem_singleton] at z; (walk_at "my om")
    · exact q
  have : farthest tx pa p ≤ p := b
  (walk_at "my om")
theorem max_of : ∀ (l : List Nat), ∃ M ∈ l ++ [0], ∀ a ∈ l ++ [0], a ≤ M
  | [] => ⟨0, by simp, by simp⟩
  | x :: l => by
    obtain ⟨M, h1, h2⟩ := max_of l
    rcases Nat.lt_or_ge M x with q | q
    · refine ⟨x, by simp, fun a ha => ?_⟩
      rcases List.mem_cons.mp ha with rfl | ha
      · exact Nat.le_refl _
      · have := h2 a ha; (walk_at "my om")
    · refine ⟨M, List.mem_cons_of_mem _ h1, fun a ha => ?_⟩
      rcases List.mem_cons.mp ha with rfl | ha
      · exact q
      · exact h2 a ha
theorem ends_len (tx pa : List Nat) (m : Nat) : (endsOf tx pa m).length ≤ tx.length + 1 := by
  have : ∀ (l sp : List Nat), sp.length ≤ tx.length + 1 → (l.foldl (stepE tx) sp).length ≤ tx.length + 1 := by
    intro l
    induction l with
    | nil => intro sp h; exact h
    | cons a l ih => intro sp h; exact ih _ (stepE_len h)
  exact this pa [m] (by simp)
end
end
section
section
open PyProof.V PySem.Spec PySem.SeqAt PySem.W
noncomputable def bbL (xss : List (List Bool)) : List PV := xss.map fun bs => PV.list (bs.map PV.bool)
noncomputable def bbD (xss : List (List Bool)) : List PyData := xss.map fun bs => PyData.list (bs.map PyData.bool)
theorem readsAll_bools {h : Heap} : ∀ {bs : List Bool} {vs : List Value}, Reps h (bs.map PV.bool) vs → ReadsAll h vs (bs.map PyData.bool) []
  | [], vs, r => by simp only [List.map_nil, Reps] at r; subst r; exact .nil
  | b :: bs, vs, r => by
    simp only [List.map_cons, Reps] at r
    obtain ⟨v, us, rfl, rv, rs⟩ := r
    rw [rep_bool rv]
    have := ReadsAll.cons (Reads.bool (h := h) b) (readsAll_bools rs)
    simpa using this
theorem readsAll_bbs {h : Heap} : ∀ {xss : List (List Bool)} {vs : List Value}, Reps h (bbL xss) vs → ∃ as, ReadsAll h vs (bbD xss) as
  | [], vs, r => by simp only [bbL, List.map_nil, Reps] at r; subst r; exact ⟨_, .nil⟩
  | b :: bs, vs, r => by
    simp only [bbL, List.map_cons, Reps] at r
    obtain ⟨v, us, rfl, rv, rs⟩ := r
    obtain ⟨a, ws, rfl, ⟨o, ho, hc, n, hd⟩, rb⟩ := rep_list rv
    obtain ⟨as, h2⟩ := readsAll_bbs (xss := bs) rs
    exact ⟨_, ReadsAll.cons (Reads.list ho hc hd (by simpa using readsAll_bools rb)) h2⟩
theorem canLay_bools : ∀ bs : List Bool, PyData.canLayAll0 (bs.map PyData.bool) = true
  | [] => by simp [PyData.canLayAll0]
  | b :: r => by simp [PyData.canLayAll0, PyData.canLay0, canLay_bools r]
theorem canLay_bbs : ∀ bs : List (List Bool), PyData.canLayAll0 (bbD bs) = true
  | [] => by simp [bbD, PyData.canLayAll0]
  | b :: r => by
    have := canLay_bbs r
    unfold bbD at *
    simp [PyData.canLayAll0, PyData.canLay0, canLay_bools b, this]
theorem depth_bools : ∀ bs : List Bool, PyData.depthAll (bs.map PyData.bool) ≤ 1
  | [] => by simp [PyData.depthAll]
  | b :: r => by
    have := depth_bools r
    simp only [List.map_cons, PyData.depthAll, PyData.depth]
    (walk_at "my om")
theorem depth_bbs : ∀ bs : List (List Bool), PyData.depthAll (bbD bs) ≤ 3
  | [] => by simp [bbD, PyData.depthAll]
  | b :: r => by
    have h1 := depth_bbs r
    have h2 := depth_bools b
    unfold bbD at *
    simp only [List.map_cons, PyData.depthAll, PyData.depth]
    (walk_at "my om")
theorem shaped_bbs (bs : List (List Bool)) : shaped (.list (bbD bs)) = true := by
  have h1 := depth_bbs bs
  have h2 : PyData.depth (.list (bbD bs)) ≤ 64 := by simp only [PyData.depth]; (walk_at "my om")
  show (PyData.canLay0 (.list (bbD bs)) && decide (PyData.depth (.list (bbD bs)) ≤ 64)) = true
  rw [Bool.and_eq_true]
  exact ⟨by simp only [PyData.canLay0]; exact canLay_bbs bs, decide_eq_true h2⟩
theorem noMix_bools : ∀ ns : List Bool, noMixAll (ns.map PyData.bool) (ns.map PyData.bool) = true
  | [] => by simp [noMixAll]
  | _ :: r => by simp [noMixAll, noMix, noMix_bools r]
theorem noMix_bbs : ∀ ns : List (List Bool), noMixAll (bbD ns) (bbD ns) = true
  | [] => by simp [bbD, noMixAll]
  | b :: r => by
    have := noMix_bbs r
    unfold bbD at *
    simp [noMixAll, noMix, noMix_bools b, this]
theorem same_bools : ∀ ns : List Bool, PySem.Spec.sameAll (ns.map PyData.bool) (ns.map PyData.bool) = true
  | [] => by simp [PySem.Spec.sameAll]
  | _ :: r => by simp [PySem.Spec.sameAll, PySem.Spec.same, same_bools r]
theorem same_bbs : ∀ ns : List (List Bool), PySem.Spec.sameAll (bbD ns) (bbD ns) = true
  | [] => by simp [bbD, PySem.Spec.sameAll]
  | b :: r => by
    have := same_bbs r
    unfold bbD at *
    simp [PySem.Spec.sameAll, PySem.Spec.same, same_bools b, this]
end
section
open PyProof.V PySem.Spec PySem.SeqAt PySem.W
variable {w : World} {A : Around} {env : Env} {h : Heap}
theorem C_ne_bbs {xss : List (List Bool)} (hu : A.units + 64 < cLine) : CmpTo w A h .NotEq (.list (bbL xss)) (.list (bbL xss)) false := by
  intro h' _ u v hu' hv s e
  obtain ⟨l, us, rfl, ⟨o, ho, hc, n, hd⟩, rs⟩ := rep_list hu'
  obtain ⟨l', us', rfl, ⟨o', ho', hc', n', hd'⟩, rs'⟩ := rep_list hv
  obtain ⟨as, h1⟩ := readsAll_bbs (Reps.mono e _ _ rs)
  obtain ⟨bs, h2⟩ := readsAll_bbs (Reps.mono e _ _ rs')
  refine ne_dataH_same (Reads.list (e _ _ ho) hc hd (by simpa using h1)) (Reads.list (e _ _ ho') hc' hd' (by simpa using h2)) (shaped_bbs xss) (shaped_bbs xss) hu (by simp only [noMix]; exact noMix_bbs xss) ?_
  simp only [PySem.Spec.same]
  rw [same_bbs]
  exact ⟨.refl s, rfl⟩
theorem strVals_of {h : Heap} : ∀ {xs : List Str} {vs : List Value}, Reps h (sL xs) vs → ∃ l : List (Str × Tok), strValues l = vs ∧ l.map (·.1) = xs
  | [], vs, r => by simp only [sL, List.map_nil, Reps] at r; subst r; exact ⟨[], rfl, rfl⟩
  | x :: xs, vs, r => by
    simp only [sL, List.map_cons, Reps] at r
    obtain ⟨v, us, rfl, rv, rs⟩ := r
    obtain ⟨t, rfl⟩ := rep_str rv
    obtain ⟨l, e1, e2⟩ := strVals_of rs
    exact ⟨(x, t) :: l, by simp [strValues] at e1 ⊢; exact e1, by simp [e2]⟩
theorem K_join {sep : Str} {xs : List Str} (hok : JoinOk sep xs = true) : CallTo w A h (.builtin "str.join") [.str sep, .list (sL xs)] (.str (Txt.join sep xs)) := by
  intro h' k vs r s e
  obtain ⟨a, b, rfl, ra, rb⟩ := reps2 r
  obtain ⟨t, rfl⟩ := rep_str ra
  obtain ⟨D, us, rfl, hl, rs⟩ := rep_list rb
  obtain ⟨l, e1, e2⟩ := strVals_of rs
  refine SC.join (l := l) (by rw [e1]; exact isList_ext hl e) e2 hok fun t' k => ?_
  exact ⟨.tok s _, .mkStr _ _⟩
end

section
open Builtin.Str
theorem glued_run : ∀ (ps : List (List Nat)) (acc : List Nat), ((ps.map mkS).foldl (fun acc p => acc ++ (mkS []).cps ++ p.cps) acc.toArray) = (acc ++ ps.flatten).toArray
  | [], acc => by simp
  | p :: ps, acc => by
    rw [List.map_cons, List.foldl_cons, show acc.toArray ++ (mkS []).cps ++ (mkS p).cps = (acc ++ p).toArray by simp [mkS], glued_run ps, List.flatten_cons, List.append_assoc]
theorem join_mk (ps : List (List Nat)) : Txt.join (mkS []) (ps.map mkS) = mkS ps.flatten := by
  show glued (mkS []) (ps.map mkS) = _
  cases ps with
  | nil => rfl
  | cons p ps =>
    unfold glued
    rw [List.map_cons, List.drop_one, List.tail_cons]
    show (⟨(ps.map mkS).foldl (fun acc p => acc ++ (mkS []).cps ++ p.cps) p.toArray⟩ : Str) = _
    rw [glued_run, List.flatten_cons]; rfl
theorem empty_mk : ("" : Str) = mkS [] := by decide +kernel
theorem chS_mk (c : Nat) : chS c = mkS [c] := rfl
theorem join_tx (tx : List Nat) : Txt.join "" (tx.map chS) = mkS tx := by
  have : tx.map chS = (tx.map fun c => [c]).map mkS := by rw [List.map_map]; rfl
  rw [empty_mk, this, join_mk]
  congr 1
  clear this
  induction tx with
  | nil => rfl
  | cons c r ih => simpa using ih
theorem join_pa (pa : List Nat) : Txt.join "" (pa.map fun c => if c = 52 then dots else chS c) = mkS (expand pa) := by
  have d : dots = mkS [46, 46, 46] := by decide +kernel
  have : (pa.map fun c => if c = 52 then dots else chS c) = (pa.map fun c => if c = 52 then [46, 46, 46] else [c]).map mkS := by
    rw [List.map_map]
    apply List.map_congr_left
    intro c _
    simp only [Function.comp]
    split
    · exact d
    · rfl
  rw [empty_mk, this, join_mk]
  congr 1
theorem slice_mk {l : List Nat} {a b : Nat} (ha : a ≤ l.length) (hb : b ≤ l.length) : Txt.slice (mkS l) (some (a : Int)) (some (b : Int)) = mkS ((l.take b).drop a) := by
  have e0 : b < a → strSliceIndices (some (a : Int)) (some (b : Int)) 1 (mkS l).length = [] := fun h => by
    have e1 : max (0 : Int) (min (a : Int) ((mkS l).length : Int)) = a := by rw [mkS_len, mx0, Nat.min_eq_left ha]
    have e2 : max (0 : Int) (min (b : Int) ((mkS l).length : Int)) = b := by rw [mkS_len, mx0, Nat.min_eq_left hb]
    simp only [strSliceIndices, sliceRange, Int.not_lt.mpr (Int.natCast_nonneg a), Int.not_lt.mpr (Int.natCast_nonneg b), if_false, e1, e2, show ((1 : Int) > 0) = True from by simp, if_true]
    rw [if_neg (Int.not_lt.mpr (Int.ofNat_le.mpr (Nat.le_of_lt h)))]; rfl
  have key : (strSliceIndices (some (a : Int)) (some (b : Int)) 1 (mkS l).length).filterMap ((mkS l).cps[·]?) = (l.take b).drop a := by
    rcases Nat.lt_or_ge b a with h | h
    · rw [e0 h, List.filterMap_nil, List.drop_eq_nil_of_le (by rw [List.length_take]; exact Nat.le_trans (Nat.min_le_left _ _) (Nat.le_of_lt h))]
    · rw [StrLaws.sliced_plain (mkS l) h (by rw [mkS_len]; exact hb), mkS_list, List.drop_take]
  unfold Txt.slice
  rw [key]
  split
  · rename_i q
    have hl : (strSliceIndices (some (a : Int)) (some (b : Int)) 1 (mkS l).length).length = l.length := by
      have := beq_iff_eq.mp (Bool.and_eq_true_iff.mp q).2
      rw [mkS_len] at this; exact this
    rcases Nat.lt_or_ge b a with h | h
    · rw [e0 h] at hl
      exact absurd (Nat.lt_of_lt_of_le h ha) (by rw [← hl]; exact Nat.not_lt_zero _)
    · rw [StrLaws.strSliceIndices_plain h (by rw [mkS_len]; exact hb)] at hl
      rw [List.length_map, List.length_range] at hl
      have ha0 : a = 0 := by (walk_at "my om")
      have hb0 : b = l.length := by (walk_at "my om")
      subst ha0 hb0
      rw [List.take_of_length_le (Nat.le_refl _), List.drop_zero]
  · rfl
theorem slice_cut {tx : List Nat} {a b : Nat} (ha : a ≤ tx.length) (hb : b ≤ tx.length) : Txt.slice (mkS tx) (some (a : Int)) (some (b : Int)) = cutT tx a b := slice_mk ha hb
end
end
section
section
theorem lamQ_eq : (("law" : Str) ++ ".<locals>.") ++ "<lambda>" = lamQ := by decide +kernel
theorem all_true {α : Type} (l : List α) (f : α → PV) : (l.filter fun _ => true).map f = l.map f := by rw [List.filter_eq_self.mpr (fun _ _ => rfl)]
theorem iL_length {l : List Int} : (iL l).length = l.length := by unfold iL; rw [List.length_map]
theorem nL_length {l : List Nat} : (nL l).length = l.length := by unfold nL; rw [List.length_map]
theorem ptL_length {l : List (List Int)} : (ptL l).length = l.length := by unfold ptL; rw [List.length_map]
theorem range_getD {α β : Type} (l : List α) (d : α) (f : α → β) : (List.range l.length).map (fun k => f (l.getD k d)) = l.map f := by
  apply List.ext_getElem
  · simp
  · intro i h1 h2
    simp at h1
    rw [List.getElem_map, List.getElem_map, List.getElem_range, List.getD_eq_getElem?_getD, List.getElem?_eq_getElem h1]; rfl
theorem slice_nums (xs : List Int) : pickL (iL xs) none (some 6) none ++ pickL (iL [2240, 9792, 19264, 4576]) (some (xs.length : Int)) none none = (xs.take 6 ++ [2240, 9792, 19264, 4576].drop xs.length).map PV.int := by
  have e1 := pickL_take (iL xs) 6
  have e2 := pickL_drop (iL [2240, 9792, 19264, 4576]) xs.length
  rw [show (some (6 : Int)) = some (((6 : Nat) : Int)) from rfl, e1, e2, List.map_append, List.map_take, List.map_drop]; rfl
end
theorem ab60 {a b : Int} (h1 : 0 ≤ a) (h2 : a < 64) (h3 : 0 ≤ b) (h4 : b < 9) : (a * 9 + b).natAbs < 2 ^ 60 ∧ a.natAbs < 2 ^ 50 := by omega/-k-/
theorem h63 {k m : Nat} (h : k < m) (hm : m ≤ 1000) : (k : Int) < 2 ^ 63 := by omega/-k-/
set_option maxHeartbeats 0
theorem law_spec : ∀ {w : World} {A : Around} {n : Nat} {hb : Heap} {s : Shared} {l : Value} {R : Result → Shared → Prop} (g : Glo w hb) (LO : LamOk hb) (e : Ext hb s.heap) (t : Tabs [116] s.heap) (hsz : hb.objs.size ≤ s.heap.objs.size) (rm : Rm A n) (hn : n ≤ 80)
   (xs : List Int) (hr : Rep s.heap (.list (iL xs)) l) (hx : xs.length ≤ 63) (hR : ∀ s', Same s s' → Ext hb s'.heap → Tabs [116] s'.heap → R (.ok (.ret (.bool true))) s'),
   codeAny (model PP w) A (.call (.ref 119) ⟨[l], []⟩) R s := by
  have : (PySem.Challenge.rw_pg0232_01, kK) = (PySem.Challenge.rw_pg0232_01, kK) := rfl
  revert this
  k_fill
  intro _ w A n hb s l R g LO e t hsz rm hn xs hr hx hR
  have hz0 : sizeLine = 16777216 := rfl
  refine' Call_entry (names := ["script"]) (pvs := [.list (iL xs)]) (r := .bool true) g e t rm (by (walk_at "my om")) ?k1z ?k2z ?k3z ?k3bz ?k4z ?k5z ?k6z ?k7z ?k8z hsz ?k9z ?k10z
  case k1z => k_is
  case k2z => k_is
  case k3z => exact rfl
  case k3bz => exact .cons hr .nil
  case k4z => intro L; rfl
  case k5z => rfl
  case k6z => rfl
  case k7z => rfl
  case k8z => decide
  case k10z =>
    intro v s' h1 h2 h3 h4
    rw [rep_bool h4]
    exact hR s' h1 h2 h3
  case k9z =>
    clear hr hR e t hsz R l s
    intro L
    -- numbers
    have hl6 : (xs.take 6 ++ [2240, 9792, 19264, 4576].drop xs.length).length ≤ 6 := by
      have := (nums_len xs).2
      unfold numsOf at this
      rwa [List.length_map] at this
    refine BT_assign (pv := .list (iL (numsOf xs))) (fun h F => ?p1z) (by (exact .inr ⟨by walk_at "my r", by walk_at "my r"⟩)) (by with_unfolding_all exact rfl) ?_
    case p1z =>
      refine EvalsTo.congr (E_unfresh (E_Comp (own := false) (cl := []) (ρ' := []) (ns := xs.take 6 ++ [2240, 9792, 19264, 4576].drop xs.length) (P := PV.int) (q := fun _ => true) (f := fun x => PV.int (x % 1000000000)) F.sit ?c1 ?c2 ?c3 ?c4 ?c5 ?c6 ?c7 ?c8 ?c9 ?c10 ?c11)) ?_
      walk_at "my comp"
      case c3 =>
        rw [← slice_nums]
        refine .list (E_BinOp (E_SliceList (by walk_at "my ev") O_none (O_some E_Int) O_none (by decide) (by rw [iL_length]; (walk_at "my om"))) (E_SliceList (xs := iL [2240, 9792, 19264, 4576]) (E_List (A_cons E_Int (A_cons E_Int (A_cons E_Int (A_cons E_Int A_nil (by with_unfolding_all exact rfl)) (by with_unfolding_all exact rfl)) (by with_unfolding_all exact rfl)) (by with_unfolding_all exact rfl)) (Nat.le_of_ble_eq_true rfl)) (O_some ?_) O_none O_none (by decide) (by decide)) (B_add_list ?_))
        · rw [← iL_length (l := xs)]
          exact E_CallB F.sit (by with_unfolding_all exact rfl) (no_len _) bt_len (.inl ⟨_, rfl⟩) (by decide) (by with_unfolding_all exact rfl) (by walk_at "my args") (K_len_list (by rw [iL_length]; (walk_at "my om"))) (by with_unfolding_all exact rfl) (by with_unfolding_all exact rfl)
        · rw [← List.length_append, slice_nums, List.length_map]
          exact Nat.le_trans hl6 (by decide)
      case c4 => exact Nat.le_trans hl6 (by decide)
      case c11 =>
        intro a ha C h' e S'
        refine ⟨Tests.nil, fun _ => EltTo.flat trivial ?_⟩
        refine E_BinOp (y := .int 1000000000) (by walk_at "my ev") (EvalsTo.congr (E_BinOp E_Int E_Int (B_pow_int (by (walk_at "my om")) (by (walk_at "my om")) (by decide))) (congrArg PV.int (by decide +kernel))) (B_mod_int (by first | decide | (walk_at "my om")))
      · rw [all_true]; unfold numsOf iL; rw [List.map_map]; rfl
    obtain ⟨hn4, hn6⟩ := nums_len xs
    have hrg := nums_range (xs := xs)
    generalize numsOf xs = nums at *
    -- size
    refine BT_assign (pv := .int (nums.length : Int)) (fun h F => ?p1z) (by (exact .inr ⟨by walk_at "my r", by walk_at "my r"⟩)) (by with_unfolding_all exact rfl) ?_
    case p1z =>
      rw [← iL_length (l := nums)]
      exact E_CallB F.sit (by with_unfolding_all exact rfl) (no_len _) bt_len (.inl ⟨_, rfl⟩) (by decide) (by with_unfolding_all exact rfl) (by walk_at "my args") (K_len_list (by rw [iL_length]; (walk_at "my om"))) (by with_unfolding_all exact rfl) (by with_unfolding_all exact rfl)
    -- places
    refine BT_assign (pv := .list (nL (List.range (nums.length + 1)))) (fun h F => ?p1z) (by (exact .inr ⟨by walk_at "my r", by walk_at "my r"⟩)) (by with_unfolding_all exact rfl) ?_
    case p1z =>
      refine E_listRange F.sit (by with_unfolding_all exact rfl) (by with_unfolding_all exact rfl) ?_ (by (walk_at "my om")) (by with_unfolding_all exact rfl) rfl
      rw [Int.natCast_succ]
      exact E_BinOp (by walk_at "my ev") E_Int B_add_int
    -- marks
    refine BT_assign (pv := .list (iL (marksI nums))) (fun h F => ?p1z) (by (exact .inr ⟨by walk_at "my r", by walk_at "my r"⟩)) (by with_unfolding_all exact rfl) ?_
    case p1z =>
      refine EvalsTo.congr (E_unfresh (E_Comp (own := false) (cl := [("numbers", L + 1)]) (ρ' := [("numbers", .list (iL nums))]) (ns := List.range 3) (P := fun (k : Nat) => PV.int (k : Int)) (q := fun _ => true) (f := fun (k : Nat) => PV.int (markI nums k)) F.sit ?c1 ?c2 ?c3 ?c4 ?c5 ?c6 ?c7 ?c8 ?c9 ?c10 ?c11)) ?_
      walk_at "my comp"
      case c3 => exact IterTo.range (k := 3) F.sit (by with_unfolding_all exact rfl) E_Int (by decide) (by with_unfolding_all exact rfl) rfl
      case c4 => decide
      case c11 =>
        intro k hk C h' e S'
        have hk3 := List.mem_range.mp hk
        refine ⟨Tests.nil, fun _ => EltTo.flat trivial ?_⟩
        refine E_BinOp (E_BinOp (x := .int ([240, 1200, 2160].getD k 0)) (y := .int ((pickL nums (some (k : Int)) none (some 3)).map (· / 36864)).sum) (E_Item (x := .list (iL [240, 1200, 2160])) (y := .int (k : Int)) (E_List (A_cons E_Int (A_cons E_Int (A_cons E_Int A_nil (by with_unfolding_all exact rfl)) (by with_unfolding_all exact rfl)) (by with_unfolding_all exact rfl)) (Nat.le_of_ble_eq_true rfl)) (by walk_at "my ev") (G_list (by (walk_at "my om")) (by (walk_at "my om")) ?i1z)) (E_CallB S' (by with_unfolding_all exact rfl) (no_sum _) bt_sum (.inl ⟨_, rfl⟩) (by decide) (by with_unfolding_all exact rfl) (A_cons ?i2z A_nil (by with_unfolding_all exact rfl)) (K_sum S'.rm.h) (by with_unfolding_all exact rfl) (by with_unfolding_all exact rfl)) B_add_int) E_Int (B_mod_int (by first | decide | (walk_at "my om")))
        case i1z =>
          have : k = 0 ∨ k = 1 ∨ k = 2 := by (walk_at "my om")
          rcases this with rfl | rfl | rfl <;> rfl
        case i2z =>
          have hpl : (pickL nums (some (k : Int)) none (some 3)).length ≤ nums.length := pickL_len
          refine EvalsTo.congr (E_unfresh (E_Comp (own := false) (cl := []) (ρ' := []) (ns := pickL nums (some (k : Int)) none (some 3)) (P := PV.int) (q := fun _ => true) (f := fun x => PV.int (x / 36864)) S' ?c1 ?c2 ?c3 ?c4 ?c5 ?c6 ?c7 ?c8 ?c9 ?c10 ?c11)) ?_
          walk_at "my comp"
          case c3 =>
            rw [← pickL_map]
            exact .list (E_SliceList (xs := iL nums) (by walk_at "my ev") (O_some (by walk_at "my ev")) O_none (O_some E_Int) (by decide) (by rw [iL_length]; (walk_at "my om")))
          case c4 => (walk_at "my om")
          case c11 =>
            intro a ha C h' e S'
            exact ⟨Tests.nil, fun _ => EltTo.flat trivial (E_BinOp (by walk_at "my ev") E_Int (B_floordiv_int (by first | decide | (walk_at "my om")) (by first | decide | (walk_at "my om"))))⟩
          · rw [all_true]; unfold iL; rw [List.map_map]; rfl
      · rw [all_true]; unfold marksI iL; rw [List.map_map]; rfl
    -- borders
    refine BT_newList (by (exact .inr ⟨by walk_at "my r", by walk_at "my r"⟩)) (by with_unfolding_all exact rfl) fun hq D hqD h0D => ?_
    have hml : (marksI nums).length = 3 := by unfold marksI; simp
    refine BT_forM (M := [D]) (items := iL (marksI nums)) (pv := .old hq (.list (iL (marksI nums)))) (fun i ρ' => ∀ q ∈ [(("borders" : Str), PV.lst D (iL (((marksI nums).take i).foldl insR []))), ("marks", .old hq (.list (iL (marksI nums)))), ("places", .old hq (.list (nL (List.range (nums.length + 1))))), ("size", .old hq (.int (nums.length : Int))), ("numbers", .old hq (.list (iL nums)))], ρ'.lookup q.1 = some q.2)
      (fun h F => by walk_at "my ev") (.old (fm hqD fm0)) (fun h v r => r.unold) (.inl (by with_unfolding_all exact rfl)) (by walk_at "my lk") (fun b hb' h F _ => ?m1z) ?m2z ?m3z (by with_unfolding_all exact fun _ => rfl) (by with_unfolding_all exact fun _ _ => rfl)
    case m1z =>
      rw [List.mem_singleton] at hb'; subst hb'
      exact F.there (x := "borders") (xs := []) (by with_unfolding_all exact rfl)
    case m2z =>
      rintro i y ρ' hsub hy
      obtain ⟨x, hx, rfl⟩ : ∃ x, (marksI nums)[i]? = some x ∧ y = .int x := by
        unfold iL at hy
        rw [List.getElem?_map] at hy
        cases q : (marksI nums)[i]? with
        | none => rw [q] at hy; cases hy
        | some v => rw [q] at hy; cases hy; exact ⟨v, rfl, rfl⟩
      rw [List.take_add_one, hx, Option.toList_some, List.foldl_append, List.foldl_cons, List.foldl_nil]
      have hlen : (((marksI nums).take i).foldl insR []).length < 1000000 := by
        have := (fold_ins ((marksI nums).take i) [] List.Pairwise.nil).2.length_eq
        rw [this, List.length_append, List.length_take, List.length_nil]; (walk_at "my om")
      generalize ((marksI nums).take i).foldl insR [] = bs at *
      refine Tn_sub (sub_cons (by with_unfolding_all exact rfl) hsub) ?_
      clear hsub
      refine Tn_step fun s F t => wpAny_Expr_any (Call_raw (E_Glob F.sit (by with_unfolding_all exact rfl) (is_insort_right _) (by decide)) (Kept.ofK g (kp_23 _)) (fun s₁ g₁ => ?_) (by with_unfolding_all exact rfl) (by with_unfolding_all exact rfl) rfl)
      have F₁ := F.grow g₁.ext
      refine Ev.use (P := fun vs h' => Reps h' [.lst D (iL bs), .int x] vs) (h := s₁.heap) (by walk_at "my args") (.refl _) fun ws s₂ g₂ r₂ => ?_
      obtain ⟨u, v, rfl, ru, rv⟩ := reps2 r₂
      have F₂ := F₁.grow g₂.ext
      obtain ⟨rfl, us, hp, rs⟩ := rep_lst ru
      refine ⟨F₂.ext, insort_spec (vs := us) g F₂.ext h0D F.rm (by (walk_at "my om")) bs hlen x ru rv fun s₃ g₃ k₃ r₃ => ?_⟩
      have ap : ∀ p, Apart [D] (.old hq p) := fun p => .old (fm hqD fm0)
      have F₃ := F₂.mutate (x := "borders") (xs := iL bs) (ρ' := [("marks", .old hq (.list (iL (marksI nums)))), ("places", .old hq (.list (nL (List.range (nums.length + 1))))), ("size", .old hq (.int (nums.length : Int))), ("numbers", .old hq (.list (iL nums)))]) (by with_unfolding_all exact rfl) k₃ h0D r₃ (fm ⟨by with_unfolding_all exact rfl, ap _⟩ (fm ⟨by with_unfolding_all exact rfl, ap _⟩ (fm ⟨by with_unfolding_all exact rfl, ap _⟩ (fm ⟨by with_unfolding_all exact rfl, ap _⟩ fm0))))
      exact ⟨rfl, (g₁.same.trans g₂.same).trans g₃, ((g₁.ext.keep.trans g₂.ext.keep).x).trans (KeepX.of k₃ List.mem_cons_self), ((t.ext g₁.ext).ext g₂.ext).but k₃ hp, _, F₃, Tn_nil (by walk_at "my lk")⟩
    case m3z =>
    rintro ρ' hsub
    rw [iL_length, List.take_length] at hsub
    refine BodyT.weaken (weak_un hsub) ?_
    change BodyT w _ _ _ _ _ [("borders", .list (iL (bordI nums))), ("marks", .list (iL (marksI nums))), ("places", .list (nL (List.range (nums.length + 1)))), ("size", .int (nums.length : Int)), ("numbers", .list (iL nums))] _ _
    clear hsub ρ' hqD h0D hq D
    -- points
    have hpl := pts_len nums
    have hpl12 : (ptsI nums).length ≤ 12 := Nat.le_trans hpl (Nat.mul_le_mul_left 2 hn6)
    refine BT_assign (pv := .list (ptL (ptsI nums))) (fun h F => ?p1z) (by (exact .inr ⟨by walk_at "my r", by walk_at "my r"⟩)) (by with_unfolding_all exact rfl) ?_
    case p1z =>
      have hpk : (pickL nums (some (nums.sum % 2)) none (some 2)).length ≤ nums.length := pickL_len
      refine E_CallF F.sit (by with_unfolding_all exact rfl) (is_pattern _) (kp_109 _) (by decide) (A_cons ?q1z A_nil (by with_unfolding_all exact rfl)) (pattern_spec F.sit.glo F.rm (by (walk_at "my om")) (pickL nums (some (nums.sum % 2)) none (some 2)) (by (walk_at "my om"))) (by with_unfolding_all exact rfl) (by with_unfolding_all exact rfl)
      case q1z =>
        refine EvalsTo.congr (E_SliceList (xs := iL nums) (by walk_at "my ev") (O_some (E_BinOp (E_CallB F.sit (by with_unfolding_all exact rfl) (no_sum _) bt_sum (.inl ⟨_, rfl⟩) (by decide) (by with_unfolding_all exact rfl) (A_cons (by walk_at "my ev") A_nil (by with_unfolding_all exact rfl)) (K_sum F.rm.h) (by with_unfolding_all exact rfl) (by with_unfolding_all exact rfl)) E_Int (B_mod_int (by first | decide | (walk_at "my om"))))) O_none (O_some E_Int) (by decide) (by rw [iL_length]; (walk_at "my om"))) ?_
        unfold iL
        rw [pickL_map]
    -- told
    have hbs := bord_srt nums
    have hbp := bord_perm nums
    have hbl : (bordI nums).length = 3 := by rw [hbp.length_eq]; exact hml
    have htl : (txC nums).length = nums.length := by unfold txC; rw [List.length_map]
    have hal : (paC nums).length = (ptsI nums).length := by unfold paC; rw [List.length_map]
    have hpa12 : (paC nums).length ≤ 12 := Nat.le_trans (Nat.le_of_eq hal) hpl12
    have htx6 : (txC nums).length ≤ 6 := Nat.le_trans (Nat.le_of_eq htl) hn6
    refine BT_comp (own := false) (cl := [("numbers", L + 1), ("borders", L + 5)]) (ρ' := [("numbers", .list (iL nums)), ("borders", .list (iL (bordI nums)))]) (ns := List.range nums.length) (P := fun (k : Nat) => PV.int (k : Int)) (q := fun _ => true) (f := fun (k : Nat) => PV.str (chS ((txC nums).getD k 0)))
      (by with_unfolding_all exact rfl) (by with_unfolding_all exact rfl) ?c1 ?c2 (fun h F => ?c3) ?c4 ?c5 ?c6 ?c7 ?c8 ?c9 ?c10 ?c11 ?_
    walk_at "my comp"
    case c3 => exact IterTo.range F.sit (by with_unfolding_all exact rfl) (by walk_at "my ev") (by (walk_at "my om")) (by with_unfolding_all exact rfl) rfl
    case c4 => rw [List.length_range]; (walk_at "my om")
    case c11 =>
      intro k hk C h' S'
      have hkl := List.mem_range.mp hk
      refine ⟨Tests.nil, fun _ => EltTo.flat trivial ?_⟩
      have hget : (iL nums)[((k : Nat) : Int).toNat]? = some (.int nums[k]) := by
        rw [Int.toNat_natCast, iL, List.getElem?_map, List.getElem?_eq_getElem hkl]; rfl
      have hv : (txC nums).getD k 0 = dueC (marksI nums) (ptI nums[k]) := by
        unfold txC
        rw [List.getD_eq_getElem?_getD, List.getElem?_map, List.getElem?_eq_getElem hkl]; rfl
      rw [hv]
      have hx0 := (hrg _ (List.getElem_mem hkl)).1
      generalize nums[k] = x at *
      have hs := sgn_told (ms := marksI nums) (bs := bordI nums) (h := x % 64) (s := x / 64 % 9) (v := x / 576 % 4 + 1) (by (walk_at "my om")) (by (walk_at "my om")) hbs hbp ((k : Int) % 2 == 0)
      refine EvalsTo.congr (E_CallF S' (by with_unfolding_all exact rfl) (is_told _) (kp_90 _) (by decide) (A_cons ?a1z (A_cons ?a2z (A_cons ?a3z (A_cons (by walk_at "my ev") A_nil (by with_unfolding_all exact rfl)) (by with_unfolding_all exact rfl)) (by with_unfolding_all exact rfl)) (by with_unfolding_all exact rfl))
        (told_spec S'.glo S'.rm (by (walk_at "my om")) (x % 64) (x / 64 % 9) (x / 576 % 4 + 1) (x / 2304 % 4) (by (walk_at "my om")) (by (walk_at "my om")) (by (walk_at "my om")) (by (walk_at "my om")) (by (walk_at "my om")) (by (walk_at "my om")) (by (walk_at "my om")) (by (walk_at "my om")) ((k : Int) % 2 == 0) (bordI nums) (by (walk_at "my om")) (dueN (x % 64) (x / 64 % 9) (x / 576 % 4 + 1)) ?a4z ?a5z) (by with_unfolding_all exact rfl) (by with_unfolding_all exact rfl)) (congrArg PV.str hs)
      case a1z =>
        exact E_CallF S' (by with_unfolding_all exact rfl) (is_point _) (kp_102 _) (by decide) (A_cons (E_Item (x := .list (iL nums)) (y := .int (k : Int)) (by walk_at "my ev") (by walk_at "my ev") (G_list (by (walk_at "my om")) (h63 hkl (Nat.le_trans hn6 (by decide))) hget)) A_nil (by with_unfolding_all exact rfl)) (point_spec S'.glo S'.rm (by (walk_at "my om")) x) (by with_unfolding_all exact rfl) (by with_unfolding_all exact rfl)
      case a2z =>
        exact E_BinOp (E_BinOp (E_Item (x := .list (iL nums)) (y := .int (k : Int)) (by walk_at "my ev") (by walk_at "my ev") (G_list (by (walk_at "my om")) (h63 hkl (Nat.le_trans hn6 (by decide))) hget)) E_Int (B_floordiv_int (by first | decide | (walk_at "my om")) (by first | decide | (walk_at "my om")))) E_Int (B_mod_int (by first | decide | (walk_at "my om")))
      case a3z => exact E_Compare (E_BinOp (by walk_at "my ev") E_Int (B_mod_int (by first | decide | (walk_at "my om")))) E_Int C_eq_int (by with_unfolding_all exact rfl)
      case a4z =>
        split
        · exact told_due_H (by (walk_at "my om")) (by (walk_at "my om")) (by (walk_at "my om")) (by (walk_at "my om")) (by (walk_at "my om")) (by (walk_at "my om")) (by (walk_at "my om")) (by (walk_at "my om"))
        · exact told_due_L (by (walk_at "my om")) (by (walk_at "my om")) (by (walk_at "my om")) (by (walk_at "my om")) (by (walk_at "my om")) (by (walk_at "my om")) (by (walk_at "my om")) (by (walk_at "my om"))
      case a5z =>
        intro v hv'
        unfold dueN at hv'
        split at hv'
        · cases hv'; (walk_at "my om")
        · cases hv'
    rw [show ((List.range nums.length).filter (fun _ => true)).map (fun (k : Nat) => PV.str (chS ((txC nums).getD k 0))) = sC (txC nums) by rw [all_true, ← htl]; exact range_getD (txC nums) 0 (fun c => PV.str (chS c))]
    -- asked
    refine BT_comp (own := false) (cl := [("points", L + 6), ("borders", L + 5)]) (ρ' := [("points", .list (ptL (ptsI nums))), ("borders", .list (iL (bordI nums)))]) (ns := List.range (ptsI nums).length) (P := fun (k : Nat) => PV.int (k : Int)) (q := fun _ => true) (f := fun (k : Nat) => PV.str (chS ((paC nums).getD k 0)))
      (by with_unfolding_all exact rfl) (by with_unfolding_all exact rfl) ?c1 ?c2 (fun h F => ?c3) ?c4 ?c5 ?c6 ?c7 ?c8 ?c9 ?c10 ?c11 ?_
    walk_at "my comp"
    case c3 =>
      refine IterTo.range F.sit (by with_unfolding_all exact rfl) ?_ (by (walk_at "my om")) (by with_unfolding_all exact rfl) rfl
      rw [← ptL_length (l := ptsI nums)]
      exact E_CallB F.sit (by with_unfolding_all exact rfl) (no_len _) bt_len (.inl ⟨_, rfl⟩) (by decide) (by with_unfolding_all exact rfl) (by walk_at "my args") (K_len_list (by rw [ptL_length]; (walk_at "my om"))) (by with_unfolding_all exact rfl) (by with_unfolding_all exact rfl)
    case c4 => rw [List.length_range]; (walk_at "my om")
    case c11 =>
      intro k hk C h' S'
      have hkl := List.mem_range.mp hk
      refine ⟨Tests.nil, fun _ => EltTo.flat trivial ?_⟩
      obtain ⟨a, b, c, hp, h1, h2, h3, h4, h5, h6⟩ := pts_ok nums _ (List.getElem_mem hkl)
      have hget : (ptL (ptsI nums))[((k : Nat) : Int).toNat]? = some (.list [.int a, .int b, .int c]) := by
        rw [Int.toNat_natCast, ptL, List.getElem?_map, List.getElem?_eq_getElem hkl, hp]; rfl
      have hv : (paC nums).getD k 0 = dueC (marksI nums) [a, b, c] := by
        unfold paC
        rw [List.getD_eq_getElem?_getD, List.getElem?_map, List.getElem?_eq_getElem hkl, hp]; rfl
      rw [hv]
      have hs := sgn_told (ms := marksI nums) (bs := bordI nums) (h := a) (s := b) (v := c) (by (walk_at "my om")) (by (walk_at "my om")) hbs hbp ((k : Int) % 2 == 1)
      refine EvalsTo.congr (E_CallF S' (by with_unfolding_all exact rfl) (is_told _) (kp_90 _) (by decide) (A_cons (E_Item (x := .list (ptL (ptsI nums))) (y := .int (k : Int)) (by walk_at "my ev") (by walk_at "my ev") (G_list (by (walk_at "my om")) (h63 hkl (Nat.le_trans hpl12 (by decide))) hget)) (A_cons (E_BinOp (by walk_at "my ev") E_Int (B_mod_int (by first | decide | (walk_at "my om")))) (A_cons (E_Compare (E_BinOp (by walk_at "my ev") E_Int (B_mod_int (by first | decide | (walk_at "my om")))) E_Int C_eq_int (by with_unfolding_all exact rfl)) (A_cons (by walk_at "my ev") A_nil (by with_unfolding_all exact rfl)) (by with_unfolding_all exact rfl)) (by with_unfolding_all exact rfl)) (by with_unfolding_all exact rfl))
        (told_spec S'.glo S'.rm (by (walk_at "my om")) a b c ((k : Int) % 4) (by (walk_at "my om")) (by (walk_at "my om")) (by (walk_at "my om")) (by (walk_at "my om")) (by (walk_at "my om")) (by (walk_at "my om")) (by (walk_at "my om")) (by (walk_at "my om")) ((k : Int) % 2 == 1) (bordI nums) (by (walk_at "my om")) (dueN a b c) ?a4z ?a5z) (by with_unfolding_all exact rfl) (by with_unfolding_all exact rfl)) (congrArg PV.str hs)
      case a4z =>
        split
        · exact told_due_H (by (walk_at "my om")) (by (walk_at "my om")) (by (walk_at "my om")) (by (walk_at "my om")) (by (walk_at "my om")) (by (walk_at "my om")) (by (walk_at "my om")) (by (walk_at "my om"))
        · exact told_due_L (by (walk_at "my om")) (by (walk_at "my om")) (by (walk_at "my om")) (by (walk_at "my om")) (by (walk_at "my om")) (by (walk_at "my om")) (by (walk_at "my om")) (by (walk_at "my om"))
      case a5z =>
        intro v hv'
        unfold dueN at hv'
        split at hv'
        · cases hv'; (walk_at "my om")
        · cases hv'
    rw [show ((List.range (ptsI nums).length).filter (fun _ => true)).map (fun (k : Nat) => PV.str (chS ((paC nums).getD k 0))) = sC (paC nums) by rw [all_true, ← hal]; exact range_getD (paC nums) 0 (fun c => PV.str (chS c))]
    -- text, want
    refine BT_assign (pv := .str (mkS (txC nums))) (fun h F => ?p1z) (by (exact .inr ⟨by walk_at "my r", by walk_at "my r"⟩)) (by with_unfolding_all exact rfl) ?_
    case p1z =>
      rw [← join_tx]
      refine E_Meth (x := .str "") (pvs := [.list (sL ((txC nums).map chS))]) E_Str (str_type _) PySem.F.plainAttrs_str PySem.F.slot_str_join PySem.F.type_str_join (str_dict _) (A_cons (EvalsTo.congr (x := .list (sC (txC nums))) (by walk_at "my ev") (by unfold sL sC; rw [List.map_map]; rfl)) A_nil (by with_unfolding_all exact rfl)) (K_join ?j1z) rfl rfl rfl rfl rfl
      case j1z =>
        unfold JoinOk
        rw [StrLaws.joinFits (B := 1) (fun y hy => ?_) (by rw [List.length_map, htl, show (("" : Str).length) = 0 from by decide +kernel]; (walk_at "my om"))]
        · rfl
        · obtain ⟨c, _, rfl⟩ := List.mem_map.mp hy
          exact Nat.le_refl _
    refine BT_assign (pv := .str (mkS (expand (paC nums)))) (fun h F => ?p1z) (by (exact .inr ⟨by walk_at "my r", by walk_at "my r"⟩)) (by with_unfolding_all exact rfl) ?_
    case p1z =>
      rw [← join_pa]
      refine E_Meth (x := .str "") (pvs := [.list (sL ((paC nums).map fun c => if c = 52 then dots else chS c))]) E_Str (str_type _) PySem.F.plainAttrs_str PySem.F.slot_str_join PySem.F.type_str_join (str_dict _) (A_cons ?j2z A_nil (by with_unfolding_all exact rfl)) (K_join ?j1z) rfl rfl rfl rfl rfl
      case j1z =>
        unfold JoinOk
        rw [StrLaws.joinFits (B := 3) (fun y hy => ?_) (by rw [List.length_map, hal, show (("" : Str).length) = 0 from by decide +kernel]; (walk_at "my om"))]
        · rfl
        · obtain ⟨c, _, rfl⟩ := List.mem_map.mp hy
          split
          · rw [dots_len]; (walk_at "my om")
          · exact Nat.le_of_ble_eq_true rfl
      case j2z =>
        refine EvalsTo.congr (E_unfresh (E_Comp (own := false) (cl := []) (ρ' := []) (ns := paC nums) (P := fun c => PV.str (chS c)) (q := fun _ => true) (f := fun c => PV.str (if c = 52 then dots else chS c)) F.sit ?c1 ?c2 ?c3 ?c4 ?c5 ?c6 ?c7 ?c8 ?c9 ?c10 ?c11)) ?_
        walk_at "my comp"
        case c3 => exact .list (EvalsTo.congr (x := .list (sC (paC nums))) (by walk_at "my ev") rfl)
        case c4 => (walk_at "my om")
        case c11 =>
          intro c hc C h' e S'
          refine ⟨Tests.nil, fun _ => EltTo.flat trivial ?_⟩
          refine E_IfExp (c := decide (c = 52)) (TestTo.congr (T_Compare (x := .str (chS c)) (y := .str "4") (by walk_at "my ev") E_Str C_eq_str (by with_unfolding_all exact rfl)) (by rw [four_eq, chS_eq])) (fun hq => ?_) (fun hq => ?_)
          · rw [if_pos (of_decide_eq_true hq)]; exact E_Str
          · rw [if_neg (of_decide_eq_false hq)]; walk_at "my ev"
        · rw [all_true]; unfold sL; rw [List.map_map]; rfl
    -- fits
    have h46 := pa_no46 nums
    have hwl : (mkS (expand (paC nums))).length < 1000000 := by
      rw [mkS_len]
      have := Nat.le_trans (expand_len (paC nums)) (Nat.mul_le_mul_left 3 hpa12)
      (walk_at "my om")
    have hcut : ∀ m e, (cutT (txC nums) m e).length < 1000000 := fun m e => by
      unfold cutT
      rw [mkS_len, List.length_drop, List.length_take]
      exact Nat.lt_of_le_of_lt (Nat.le_trans (Nat.sub_le _ _) (Nat.le_trans (Nat.min_le_right _ _) htx6)) (by decide)
    refine BT_comp (own := true) (cl := [("want", L + 12), ("text", L + 11), ("places", L + 3)]) (ρ' := [("want", .str (mkS (expand (paC nums)))), ("text", .str (mkS (txC nums))), ("places", .list (nL (List.range (nums.length + 1))))]) (ns := List.range (nums.length + 1)) (P := fun (k : Nat) => PV.int (k : Int)) (q := fun _ => true) (f := fun (m : Nat) => PV.list (((List.range (nums.length + 1)).drop m).map fun e => PV.bool (ellB (mkS (expand (paC nums))) (cutT (txC nums) m e))))
      (by with_unfolding_all exact rfl) (by with_unfolding_all exact rfl) ?c1 ?c2 (fun h F => ?c3) ?c4 ?c5 ?c6 ?c7 ?c8 ?c9 ?c10 ?c11 ?_
    walk_at "my comp"
    case c3 => exact .list (EvalsTo.congr (x := .list (nL (List.range (nums.length + 1)))) (by walk_at "my ev") rfl)
    case c4 => rw [List.length_range]; (walk_at "my om")
    case c11 =>
      intro m hm C h' S'
      have hml := List.mem_range.mp hm
      refine ⟨Tests.nil, fun _ => EltTo.list (fun p hp => ?l1z) (EvalsTo.congr (E_Comp (own := false) (cl := [("want", L + 12), ("text", L + 11), ("m", C + 1)]) (ρ' := [("want", .str (mkS (expand (paC nums)))), ("text", .str (mkS (txC nums))), ("m", .int (m : Int))]) (ns := (List.range (nums.length + 1)).drop m) (P := fun (k : Nat) => PV.int (k : Int)) (q := fun _ => true) (f := fun e => PV.bool (ellB (mkS (expand (paC nums))) (cutT (txC nums) m e))) S' ?c1 ?c2 ?c3 ?c4 ?c5 ?c6 ?c7 ?c8 ?c9 ?c10 ?c11) (by rw [all_true]))⟩
      walk_at "my comp"
      case l1z =>
        obtain ⟨e, _, rfl⟩ := List.mem_map.mp hp
        trivial
      case c3 =>
        refine .list (EvalsTo.congr (E_SliceList (xs := nL (List.range (nums.length + 1))) (by walk_at "my ev") (O_some (by walk_at "my ev")) O_none O_none (by decide) (by rw [nL_length, List.length_range]; (walk_at "my om"))) ?_)
        rw [pickL_drop]
        unfold nL
        rw [List.map_drop]
      case c4 => rw [List.length_drop, List.length_range]; exact Nat.le_trans (Nat.sub_le _ _) (Nat.le_trans (Nat.succ_le_succ hn6) (by decide))
      case c11 =>
        intro e he C' h'' e' S''
        have hel := List.mem_range.mp (List.mem_of_mem_drop he)
        refine ⟨Tests.nil, fun _ => EltTo.flat trivial ?_⟩
        refine E_CallF S'' (by with_unfolding_all exact rfl) (is_ellipsis _) (kp_83 _) (by decide) (A_cons (by walk_at "my ev") (A_cons ?s1z A_nil (by with_unfolding_all exact rfl)) (by with_unfolding_all exact rfl)) (ell_spec S''.glo S''.rm (by (walk_at "my om")) _ _ hwl (hcut m e)) (by with_unfolding_all exact rfl) (by with_unfolding_all exact rfl)
        case s1z =>
          rw [← slice_cut (by rw [htl]; (walk_at "my om")) (by rw [htl]; (walk_at "my om"))]
          exact E_SliceStr (by walk_at "my ev") (by walk_at "my ev") (by walk_at "my ev") (by rw [mkS_len, htl]; (walk_at "my om"))
    rw [all_true]
    -- stops
    refine BT_comp (own := false) (cl := []) (ρ' := []) (ns := List.range (nums.length + 1)) (P := fun (k : Nat) => PV.int (k : Int)) (q := fun _ => true) (f := fun (k : Nat) => PV.int (3 * (k : Int) + 7))
      (by with_unfolding_all exact rfl) (by with_unfolding_all exact rfl) ?c1 ?c2 (fun h F => ?c3) ?c4 ?c5 ?c6 ?c7 ?c8 ?c9 ?c10 ?c11 ?_
    walk_at "my comp"
    case c3 => exact .list (EvalsTo.congr (x := .list (nL (List.range (nums.length + 1)))) (by walk_at "my ev") rfl)
    case c4 => rw [List.length_range]; (walk_at "my om")
    case c11 =>
      intro k hk C h' S'
      exact ⟨Tests.nil, fun _ => EltTo.flat trivial (E_BinOp (E_BinOp E_Int (by walk_at "my ev") (B_mul_int (by (walk_at "my om")))) E_Int B_add_int)⟩
    rw [all_true]
    -- nearest, farthest
    have hpa := hpa12
    refine BT_new2 (.inl (by with_unfolding_all exact rfl)) (.inl (by with_unfolding_all exact rfl)) (by with_unfolding_all exact rfl) (by with_unfolding_all exact rfl) fun hq a1 a2 h12 hq1 hq2 h01 h02 tq => ?_
    have apM : ∀ p, Apart [a1, a2, 116] (.old hq p) := fun p => .old' (fm (fun _ _ _ e => by rw [hq1] at e; cases e) (fm (fun _ _ _ e => by rw [hq2] at e; cases e) (fm (tq.notSeq List.mem_cons_self) fm0)))
    have ap1 : ∀ p, Apart [a1] (.old hq p) := fun p => .old (fm hq1 fm0)
    have ap2 : ∀ p, Apart [a2] (.old hq p) := fun p => .old (fm hq2 fm0)
    generalize hst : (List.range (nums.length + 1)).map (fun (k : Nat) => PV.int (3 * (k : Int) + 7)) = stops
    have hstI : stops = iL ((List.range (nums.length + 1)).map fun (k : Nat) => 3 * (k : Int) + 7) := by
      rw [← hst]; unfold iL; rw [List.map_map]; rfl
    subst hstI
    clear hst
    generalize hsI : (List.range (nums.length + 1)).map (fun (k : Nat) => 3 * (k : Int) + 7) = stI
    have hsl : stI.length = nums.length + 1 := by rw [← hsI]; simp
    have hsg : ∀ j, j < stI.length → stI.getD j 0 = 3 * (j : Int) + 7 := fun j hj => by
      rw [hsl] at hj
      rw [← hsI, List.getD_eq_getElem?_getD, List.getElem?_map, List.getElem?_range hj]; rfl
    clear hsI
    generalize hfitsB : (List.range (nums.length + 1)).map (fun (m : Nat) => PV.list (((List.range (nums.length + 1)).drop m).map fun e => PV.bool (ellB (mkS (expand (paC nums))) (cutT (txC nums) m e)))) = fitsP
    refine BodyT.weaken (ρ' := [("nearest", .lst a1 (nL [])), ("farthest", .lst a2 (nL [])), ("want", .str (mkS (expand (paC nums)))), ("text", .str (mkS (txC nums))), ("stops", .old hq (.list (iL stI))), ("places", .old hq (.list (nL (List.range (nums.length + 1))))), ("fits", .old hq (.list fitsP)), ("points", .old hq (.list (ptL (ptsI nums)))), ("marks", .old hq (.list (iL (marksI nums)))), ("borders", .old hq (.list (iL (bordI nums)))), ("size", .old hq (.int (nums.length : Int))), ("numbers", .old hq (.list (iL nums)))]) (by
      refine fm ⟨_, by with_unfolding_all exact rfl, fun h v r => r⟩ (fm ⟨_, by with_unfolding_all exact rfl, fun h v r => r⟩ (fm ⟨.old hq (.str (mkS (expand (paC nums)))), by with_unfolding_all exact rfl, fun h v r => r.unold⟩ (fm ⟨.old hq (.str (mkS (txC nums))), by with_unfolding_all exact rfl, fun h v r => r.unold⟩ ?_)))
      repeat (first | exact fm0 | refine fm ⟨_, by with_unfolding_all exact rfl, fun h v r => r⟩ ?_)) ?_
    refine BT_forM (M := [a1, a2, 116]) (items := nL (List.range (nums.length + 1))) (pv := .old hq (.list (nL (List.range (nums.length + 1))))) (fun i ρ' => ∀ q ∈ [(("nearest" : Str), PV.lst a1 (nL ((List.range i).map (nearest (txC nums) (paC nums))))), ("farthest", .lst a2 (nL ((List.range i).map (farthest (txC nums) (paC nums))))), ("want", .str (mkS (expand (paC nums)))), ("text", .str (mkS (txC nums))), ("stops", .old hq (.list (iL stI))), ("places", .old hq (.list (nL (List.range (nums.length + 1))))), ("fits", .old hq (.list fitsP)), ("points", .old hq (.list (ptL (ptsI nums)))), ("marks", .old hq (.list (iL (marksI nums)))), ("borders", .old hq (.list (iL (bordI nums)))), ("size", .old hq (.int (nums.length : Int))), ("numbers", .old hq (.list (iL nums)))], ρ'.lookup q.1 = some q.2)
      (fun h F => by walk_at "my ev") (apM _) (fun h v r => r.unold) (by (exact .inr ⟨by walk_at "my r", by walk_at "my r"⟩)) (by walk_at "my lk") (fun b hb' h F tb => ?m1z) ?m2z ?m3z (by with_unfolding_all exact fun _ => rfl) (by with_unfolding_all exact fun _ _ => rfl)
    case m1z =>
      simp only [List.mem_cons, List.mem_nil_iff, or_false] at hb'
      rcases hb' with rfl | rfl | rfl
      · exact F.there (x := "nearest") (xs := nL []) (by with_unfolding_all exact rfl)
      · exact F.there (x := "farthest") (xs := nL []) (by with_unfolding_all exact rfl)
      · obtain ⟨ps, e', _⟩ := tb 116 List.mem_cons_self
        rw [e']; nofun
    case m2z =>
      rintro i y ρ' hsub hy
      obtain ⟨hi, rfl⟩ : i < nums.length + 1 ∧ y = .int (i : Int) := by
        unfold nL at hy
        rw [List.getElem?_map] at hy
        cases q : (List.range (nums.length + 1))[i]? with
        | none => rw [q] at hy; cases hy
        | some v =>
          rw [q] at hy; cases hy
          obtain ⟨h1, h2⟩ := List.getElem?_eq_some_iff.mp q
          rw [List.getElem_range] at h2
          rw [List.length_range] at h1
          subst h2; exact ⟨h1, rfl⟩
      have hil : i ≤ stI.length := by (walk_at "my om")
      have nap : ∀ (l : List Nat) (k : Nat), nL (l ++ [k]) = nL l ++ [.int (k : Int)] := fun l k => by unfold nL; rw [List.map_append]; rfl
      have nr : ∀ F : Nat → Nat, nL ((List.range (i + 1)).map F) = nL ((List.range i).map F) ++ [.int (F i : Nat)] := fun F => by rw [List.range_succ, List.map_append, List.map_cons, List.map_nil, nap]
      rw [nr, nr]
      have hl1 : (nL ((List.range i).map (nearest (txC nums) (paC nums)))).length < 1000000 := by rw [nL_length, List.length_map, List.length_range]; (walk_at "my om")
      have hl2 : (nL ((List.range i).map (farthest (txC nums) (paC nums)))).length < 1000000 := by rw [nL_length, List.length_map, List.length_range]; (walk_at "my om")
      have nlA : ∀ (M : List Addr) (l : List Nat), ∀ p ∈ nL l, Apart M p := fun M l p hp => by
        obtain ⟨k, _, rfl⟩ := List.mem_map.mp hp
        exact .flat trivial
      generalize (List.range i).map (nearest (txC nums) (paC nums)) = L1 at *
      generalize (List.range i).map (farthest (txC nums) (paC nums)) = L2 at *
      refine Tn_sub (sub_cons (by with_unfolding_all exact rfl) hsub) ?_
      clear hsub
      -- nearest
      refine Tn_append (a := a1) (xs := nL L1) (pv := .int (nearest (txC nums) (paC nums) i : Nat)) (ρ' := [("p", .int (i : Int)), ("farthest", .lst a2 (nL L2)), ("want", .str (mkS (expand (paC nums)))), ("text", .str (mkS (txC nums))), ("stops", .old hq (.list (iL stI))), ("places", .old hq (.list (nL (List.range (nums.length + 1))))), ("fits", .old hq (.list fitsP)), ("points", .old hq (.list (ptL (ptsI nums)))), ("marks", .old hq (.list (iL (marksI nums)))), ("borders", .old hq (.list (iL (bordI nums)))), ("size", .old hq (.int (nums.length : Int))), ("numbers", .old hq (.list (iL nums)))])
        (by with_unfolding_all exact rfl) (by decide) (by decide) h01 List.mem_cons_self trivial (nlA _ _) hl1 ?r1z (fun s Q F t hQ => ?v1z) (by with_unfolding_all exact rfl) (by with_unfolding_all exact rfl) (by with_unfolding_all exact rfl) (by with_unfolding_all exact rfl) (by with_unfolding_all exact rfl) (by with_unfolding_all exact rfl) (by with_unfolding_all exact rfl) (by with_unfolding_all exact rfl) ?_
      case r1z =>
        refine fm ⟨by with_unfolding_all exact rfl, .flat trivial⟩ (fm ⟨by with_unfolding_all exact rfl, .lst (fun m => h12 (List.mem_singleton.mp m).symm) (nlA _ _)⟩ (fm ⟨by with_unfolding_all exact rfl, .flat trivial⟩ (fm ⟨by with_unfolding_all exact rfl, .flat trivial⟩ ?_)))
        repeat (first | exact fm0 | refine fm ⟨by with_unfolding_all exact rfl, ap1 _⟩ ?_)
      case v1z =>
        refine CallKw_raw (f := .ref 41) (pvs := [.list (iL stI), .bool true, .int (i : Int)]) (hb := hb) (E_Glob F.sit (by with_unfolding_all exact rfl) (is_bisect_left _) (by decide)) (Kept.ofK g (kp_41 _)) (A_cons (E_unold (by walk_at "my ev")) (A_cons E_Bool (A_cons (by walk_at "my ev") A_nil (by with_unfolding_all exact rfl)) (by with_unfolding_all exact rfl)) (by with_unfolding_all exact rfl)) (fun vs s₁ g₁ r₁ => ?l1z) (by with_unfolding_all exact rfl) (by with_unfolding_all exact rfl)
        case l1z =>
          have F₁ := F.grow g₁.ext
          have t₁ := t.ext g₁.ext
          refine lam_make (h₀ := hb) (cl := [("want", L + 12), ("text", L + 11), ("p", L + 7)]) (by with_unfolding_all exact rfl) (by with_unfolding_all exact rfl) rfl rfl lamQ_eq LO F₁.ext t₁ fun f s₂ cv pm ctv g₂ k₂ t₂ ho hrec hnew => ?_
          obtain ⟨ps, hP, _⟩ := t₁ 116 List.mem_cons_self
          obtain ⟨F₂, st₂⟩ := F₁.tab hP k₂ LO.no
          refine ⟨F₂.ext, ?_⟩
          have spec := bisect_leftK_spec F₂.sit.glo F₂.rm (by (walk_at "my om")) stI (by (walk_at "my om")) f (nearP (txC nums) (paC nums) i) i hil (Kept.lam ho) (fun A' rm' j hj => ?keyz)
          case keyz =>
            rw [hsg j hj]
            rw [hsl] at hj
            refine Call_lam (names := ["e"]) (ρ' := [("want", .str (mkS (expand (paC nums)))), ("text", .str (mkS (txC nums))), ("p", .int (i : Int))]) F₂.sit rm' (by (walk_at "my om")) ho hrec ?cl1z (len1 (fun _ => rfl)) (by with_unfolding_all exact rfl) (by decide) rfl rfl rfl (by with_unfolding_all exact rfl) (fun L' h₁ e S => ?bbz)
            case cl1z => exact .cons (by with_unfolding_all exact rfl) (by with_unfolding_all exact rfl) (by with_unfolding_all exact rfl) (by with_unfolding_all exact rfl) (by with_unfolding_all exact rfl) (.cons (by with_unfolding_all exact rfl) (by with_unfolding_all exact rfl) (by with_unfolding_all exact rfl) (by with_unfolding_all exact rfl) (by with_unfolding_all exact rfl) (.cons (by with_unfolding_all exact rfl) (by with_unfolding_all exact rfl) (by with_unfolding_all exact rfl) (by with_unfolding_all exact rfl) (by with_unfolding_all exact rfl) .nil))
            case bbz =>
              have hwd : (mkS (expand (paC nums)) ++ dots).length < 1000000 := by
                rw [expand_snoc, mkS_len]
                have := Nat.le_trans (expand_len (paC nums ++ [52])) (Nat.mul_le_mul_left 3 (show (paC nums ++ [52]).length ≤ 13 by rw [List.length_append]; exact Nat.succ_le_succ hpa12))
                (walk_at "my om")
              refine E_CallF S (by with_unfolding_all exact rfl) (is_ellipsis _) (kp_83 _) (by decide) (A_cons (E_BinOp (x := .str (mkS (expand (paC nums)))) (y := .str dots) (by walk_at "my ev") E_Str (B_add_str (by rw [dots_len]; (walk_at "my om")))) (A_cons ?s1z A_nil (by with_unfolding_all exact rfl)) (by with_unfolding_all exact rfl)) (ell_spec S.glo S.rm (by (walk_at "my om")) _ _ hwd (hcut i j)) (by with_unfolding_all exact rfl) (by with_unfolding_all exact rfl)
              case s1z =>
                rw [← slice_cut (by rw [htl]; (walk_at "my om")) (by rw [htl]; (walk_at "my om"))]
                refine E_SliceStr (by walk_at "my ev") (by walk_at "my ev") ?_ (by rw [mkS_len, htl]; (walk_at "my om"))
                refine EvalsTo.congr (E_BinOp (E_BinOp (by walk_at "my ev") E_Int B_sub_int) E_Int (B_floordiv_int (by first | decide | (walk_at "my om")) (by first | decide | (walk_at "my om")))) (congrArg PV.int ?_)
                (walk_at "my om")
          refine (spec s₂.heap (.refl _) vs [.ref f] (Reps.still st₂ _ _ r₁) (Reps.single (.mkObj _))).use (.refl _) fun v s₃ g₃ r₃ => ?_
          exact hQ v s₃ ((g₁.same.trans g₂).trans g₃.same) (((g₁.ext.keep.x).trans (KeepX.of k₂ (by simp))).trans g₃.ext.keep.x) (t₂.ext g₃.ext) (F₂.grow g₃.ext) (by unfold nearest; rw [htl, ← hsl]; exact r₃)
      -- farthest
      refine Tn_append (a := a2) (xs := nL L2) (pv := .int (farthest (txC nums) (paC nums) i : Nat)) (ρ' := [("nearest", .lst a1 (nL L1 ++ [.int (nearest (txC nums) (paC nums) i : Nat)])), ("want", .str (mkS (expand (paC nums)))), ("text", .str (mkS (txC nums))), ("stops", .old hq (.list (iL stI))), ("places", .old hq (.list (nL (List.range (nums.length + 1))))), ("fits", .old hq (.list fitsP)), ("points", .old hq (.list (ptL (ptsI nums)))), ("marks", .old hq (.list (iL (marksI nums)))), ("borders", .old hq (.list (iL (bordI nums)))), ("size", .old hq (.int (nums.length : Int))), ("numbers", .old hq (.list (iL nums)))])
        (by with_unfolding_all exact rfl) (by decide) (by decide) h02 (.tail _ (.head _)) trivial (nlA _ _) hl2 ?r1z (fun s Q F t hQ => ?v1z) (by with_unfolding_all exact rfl) (by with_unfolding_all exact rfl) (by with_unfolding_all exact rfl) (by with_unfolding_all exact rfl) (by with_unfolding_all exact rfl) (by with_unfolding_all exact rfl) (by with_unfolding_all exact rfl) (by with_unfolding_all exact rfl) (Tn_nil (by walk_at "my lk"))
      case r1z =>
        refine fm ⟨by with_unfolding_all exact rfl, .lst (fun m => h12 (List.mem_singleton.mp m)) (fun p hp => by rw [← nap] at hp; exact nlA _ _ p hp)⟩ (fm ⟨by with_unfolding_all exact rfl, .flat trivial⟩ (fm ⟨by with_unfolding_all exact rfl, .flat trivial⟩ ?_))
        repeat (first | exact fm0 | refine fm ⟨by with_unfolding_all exact rfl, ap2 _⟩ ?_)
      case v1z =>
        refine CallKw_raw (f := .ref 32) (pvs := [.list (iL stI), .bool false, .int 0, .int (i : Int)]) (hb := hb) (E_Glob F.sit (by with_unfolding_all exact rfl) (is_bisect_right _) (by decide)) (Kept.ofK g (kp_32 _)) (A_cons (E_unold (by walk_at "my ev")) (A_cons E_Bool (A_cons E_Int (A_cons (by walk_at "my ev") A_nil (by with_unfolding_all exact rfl)) (by with_unfolding_all exact rfl)) (by with_unfolding_all exact rfl)) (by with_unfolding_all exact rfl)) (fun vs s₁ g₁ r₁ => ?l1z) (by with_unfolding_all exact rfl) (by with_unfolding_all exact rfl)
        case l1z =>
          have F₁ := F.grow g₁.ext
          have t₁ := t.ext g₁.ext
          refine lam_make (h₀ := hb) (cl := [("want", L + 12), ("text", L + 11), ("p", L + 7)]) (by with_unfolding_all exact rfl) (by with_unfolding_all exact rfl) rfl rfl lamQ_eq LO F₁.ext t₁ fun f s₂ cv pm ctv g₂ k₂ t₂ ho hrec hnew => ?_
          obtain ⟨ps, hP, _⟩ := t₁ 116 List.mem_cons_self
          obtain ⟨F₂, st₂⟩ := F₁.tab hP k₂ LO.no
          refine ⟨F₂.ext, ?_⟩
          have spec := bisect_rightK_spec F₂.sit.glo F₂.rm (by (walk_at "my om")) stI (by (walk_at "my om")) f (farP (txC nums) (paC nums) i) i hil (Kept.lam ho) (fun A' rm' j hj => ?keyz)
          case keyz =>
            rw [hsg j hj]
            rw [hsl] at hj
            refine Call_lam (names := ["m"]) (ρ' := [("want", .str (mkS (expand (paC nums)))), ("text", .str (mkS (txC nums))), ("p", .int (i : Int))]) F₂.sit rm' (by (walk_at "my om")) ho hrec ?cl1z (len1 (fun _ => rfl)) (by with_unfolding_all exact rfl) (by decide) rfl rfl rfl (by with_unfolding_all exact rfl) (fun L' h₁ e S => ?bbz)
            case cl1z => exact .cons (by with_unfolding_all exact rfl) (by with_unfolding_all exact rfl) (by with_unfolding_all exact rfl) (by with_unfolding_all exact rfl) (by with_unfolding_all exact rfl) (.cons (by with_unfolding_all exact rfl) (by with_unfolding_all exact rfl) (by with_unfolding_all exact rfl) (by with_unfolding_all exact rfl) (by with_unfolding_all exact rfl) (.cons (by with_unfolding_all exact rfl) (by with_unfolding_all exact rfl) (by with_unfolding_all exact rfl) (by with_unfolding_all exact rfl) (by with_unfolding_all exact rfl) .nil))
            case bbz =>
              have hwd : (dots ++ mkS (expand (paC nums))).length < 1000000 := by
                rw [expand_consS, mkS_len]
                have := Nat.le_trans (expand_len (52 :: paC nums)) (Nat.mul_le_mul_left 3 (Nat.succ_le_succ hpa12))
                (walk_at "my om")
              refine E_not (E_CallF S (by with_unfolding_all exact rfl) (is_ellipsis _) (kp_83 _) (by decide) (A_cons (E_BinOp (x := .str dots) (y := .str (mkS (expand (paC nums)))) E_Str (by walk_at "my ev") (B_add_str (by rw [dots_len]; (walk_at "my om")))) (A_cons ?s1z A_nil (by with_unfolding_all exact rfl)) (by with_unfolding_all exact rfl)) (ell_spec S.glo S.rm (by (walk_at "my om")) _ _ hwd (hcut j i)) (by with_unfolding_all exact rfl) (by with_unfolding_all exact rfl))
              case s1z =>
                rw [← slice_cut (by rw [htl]; (walk_at "my om")) (by rw [htl]; (walk_at "my om"))]
                refine E_SliceStr (by walk_at "my ev") ?_ (by walk_at "my ev") (by rw [mkS_len, htl]; (walk_at "my om"))
                refine EvalsTo.congr (E_BinOp (E_BinOp (by walk_at "my ev") E_Int B_sub_int) E_Int (B_floordiv_int (by first | decide | (walk_at "my om")) (by first | decide | (walk_at "my om")))) (congrArg PV.int ?_)
                (walk_at "my om")
          refine (spec s₂.heap (.refl _) vs [.ref f] (Reps.still st₂ _ _ r₁) (Reps.single (.mkObj _))).use (.refl _) fun v s₃ g₃ r₃ => ?_
          exact hQ v s₃ ((g₁.same.trans g₂).trans g₃.same) (((g₁.ext.keep.x).trans (KeepX.of k₂ (by simp))).trans g₃.ext.keep.x) (t₂.ext g₃.ext) (F₂.grow g₃.ext) r₃
    case m3z =>
    rintro ρ' hsub
    rw [nL_length, List.length_range] at hsub
    refine BodyT.weaken (weak_un hsub) ?_
    change BodyT w _ _ _ _ _ [("nearest", .list (nL ((List.range (nums.length + 1)).map (nearest (txC nums) (paC nums))))), ("farthest", .list (nL ((List.range (nums.length + 1)).map (farthest (txC nums) (paC nums))))), ("want", .str (mkS (expand (paC nums)))), ("text", .str (mkS (txC nums))), ("stops", .list (iL stI)), ("places", .list (nL (List.range (nums.length + 1)))), ("fits", .list fitsP), ("points", .list (ptL (ptsI nums))), ("marks", .list (iL (marksI nums))), ("borders", .list (iL (bordI nums))), ("size", .int (nums.length : Int)), ("numbers", .list (iL nums))] _ _
    clear hsub ρ' apM ap1 ap2 h12 hq1 hq2 h01 h02 tq hq a1 a2 hsg hsl
    subst hfitsB
    -- signs
    have hmk : (marksI nums).length < 100000 := by (walk_at "my om")
    refine BT_assign (pv := .list (sC (txC nums))) (fun h F => ?p1z) (by (exact .inr ⟨by walk_at "my r", by walk_at "my r"⟩)) (by with_unfolding_all exact rfl) ?_
    case p1z =>
      refine EvalsTo.congr (E_unfresh (E_Comp (own := false) (cl := [("marks", L + 4)]) (ρ' := [("marks", .list (iL (marksI nums)))]) (ns := nums) (P := PV.int) (q := fun _ => true) (f := fun x => PV.str (chS (dueC (marksI nums) (ptI x)))) F.sit ?c1 ?c2 ?c3 ?c4 ?c5 ?c6 ?c7 ?c8 ?c9 ?c10 ?c11)) ?_
      walk_at "my comp"
      case c3 => exact .list (EvalsTo.congr (x := .list (iL nums)) (by walk_at "my ev") rfl)
      case c4 => (walk_at "my om")
      case c11 =>
        intro x hx C h' e S'
        refine ⟨Tests.nil, fun _ => EltTo.flat trivial ?_⟩
        have hab := ab60 (Int.emod_nonneg x (show (64 : Int) ≠ 0 by decide)) (Int.emod_lt_of_pos x (show (0 : Int) < 64 by decide)) (Int.emod_nonneg (x / 64) (show (9 : Int) ≠ 0 by decide)) (Int.emod_lt_of_pos (x / 64) (show (0 : Int) < 9 by decide))
        have hs := sgn_due (ms := marksI nums) (h := x % 64) (s := x / 64 % 9) (v := x / 576 % 4 + 1) (by (walk_at "my om")) (by (walk_at "my om"))
        refine EvalsTo.congr (E_CallF S' (by with_unfolding_all exact rfl) (is_due _) (kp_95 _) (by decide) (A_cons (E_CallF S' (by with_unfolding_all exact rfl) (is_point _) (kp_102 _) (by decide) (by walk_at "my args") (point_spec S'.glo S'.rm (by (walk_at "my om")) x) (by with_unfolding_all exact rfl) (by with_unfolding_all exact rfl)) (A_cons (by walk_at "my ev") A_nil (by with_unfolding_all exact rfl)) (by with_unfolding_all exact rfl)) (due_spec S'.glo S'.rm (by (walk_at "my om")) (x % 64) (x / 64 % 9) (x / 576 % 4 + 1) (by (walk_at "my om")) hab.1 hab.2 (marksI nums) hmk) (by with_unfolding_all exact rfl) (by with_unfolding_all exact rfl)) (congrArg PV.str hs)
      · rw [all_true]; unfold txC sC; rw [List.map_map]; rfl
    -- pattern
    refine BT_assign (pv := .list (sC (paC nums))) (fun h F => ?p1z) (by (exact .inr ⟨by walk_at "my r", by walk_at "my r"⟩)) (by with_unfolding_all exact rfl) ?_
    case p1z =>
      refine EvalsTo.congr (E_unfresh (E_Comp (own := false) (cl := [("marks", L + 4)]) (ρ' := [("marks", .list (iL (marksI nums)))]) (ns := ptsI nums) (P := fun p => PV.list (iL p)) (q := fun _ => true) (f := fun p => PV.str (chS (dueC (marksI nums) p))) F.sit ?c1 ?c2 ?c3 ?c4 ?c5 ?c6 ?c7 ?c8 ?c9 ?c10 ?c11)) ?_
      walk_at "my comp"
      case c3 => exact .list (EvalsTo.congr (x := .list (ptL (ptsI nums))) (by walk_at "my ev") rfl)
      case c4 => (walk_at "my om")
      case c11 =>
        intro p hp C h' e S'
        obtain ⟨a, b, c, rfl, h1, h2, h3, h4, h5, h6⟩ := pts_ok nums p hp
        refine ⟨Tests.nil, fun _ => EltTo.flat trivial ?_⟩
        have hab := ab60 h1 h2 h3 h4
        have hs := sgn_due (ms := marksI nums) (h := a) (s := b) (v := c) (by (walk_at "my om")) (by (walk_at "my om"))
        refine EvalsTo.congr (E_CallF S' (by with_unfolding_all exact rfl) (is_due _) (kp_95 _) (by decide) (A_cons (EvalsTo.congr (x := .list (iL [a, b, c])) (by walk_at "my ev") rfl) (A_cons (by walk_at "my ev") A_nil (by with_unfolding_all exact rfl)) (by with_unfolding_all exact rfl)) (due_spec S'.glo S'.rm (by (walk_at "my om")) a b c (by (walk_at "my om")) hab.1 hab.2 (marksI nums) hmk) (by with_unfolding_all exact rfl) (by with_unfolding_all exact rfl)) (congrArg PV.str hs)
      · rw [all_true]; unfold paC sC; rw [List.map_map]; rfl
    -- ends
    generalize htx : txC nums = tx at *
    generalize hpa' : paC nums = pa at *
    have hel : ∀ m, m ≤ tx.length → (endsOf tx pa m).length ≤ tx.length + 1 := fun m hm => ends_len tx pa m
    refine BT_assign (pv := .list ((List.range (nums.length + 1)).map fun (m : Nat) => PV.list (nL (endsOf tx pa m)))) (fun h F => ?p1z) (by (exact .inr ⟨by walk_at "my r", by walk_at "my r"⟩)) (by with_unfolding_all exact rfl) ?_
    case p1z =>
      refine EvalsTo.congr (E_unfresh (E_Comp (own := false) (cl := [("signs", L + 8), ("pattern", L + 9)]) (ρ' := [("signs", .list (sC tx)), ("pattern", .list (sC pa))]) (ns := List.range (nums.length + 1)) (P := fun (k : Nat) => PV.int (k : Int)) (q := fun _ => true) (f := fun (m : Nat) => PV.list (nL (endsOf tx pa m))) F.sit ?c1 ?c2 ?c3 ?c4 ?c5 ?c6 ?c7 ?c8 ?c9 ?c10 ?c11)) (by rw [all_true])
      walk_at "my comp"
      case c3 => exact .list (EvalsTo.congr (x := .list (nL (List.range (nums.length + 1)))) (by walk_at "my ev") rfl)
      case c4 => rw [List.length_range]; (walk_at "my om")
      case c11 =>
        intro m hm C h' e S'
        refine ⟨Tests.nil, fun _ => EltTo.list (fun p hp => ?l1z) ?_⟩
        case l1z =>
          obtain ⟨k, _, rfl⟩ := List.mem_map.mp hp
          trivial
        exact E_CallF S' (by with_unfolding_all exact rfl) (is_ends _) (kp_114 _) (by decide) (by walk_at "my args") (ends_spec S'.glo S'.rm (by (walk_at "my om")) pa tx m (by (walk_at "my om")) (by (walk_at "my om"))) (by with_unfolding_all exact rfl) (by with_unfolding_all exact rfl)
    have hgetE : ∀ m, m < nums.length + 1 → ((List.range (nums.length + 1)).map fun (m : Nat) => PV.list (nL (endsOf tx pa m)))[((m : Nat) : Int).toNat]? = some (.list (nL (endsOf tx pa m))) := fun m hm => by
      rw [Int.toNat_natCast, List.getElem?_map, List.getElem?_range hm]; rfl
    generalize hEL : (List.range (nums.length + 1)).map (fun (m : Nat) => PV.list (nL (endsOf tx pa m))) = endsL at *
    have anyE : ∀ (l : List Nat) (k : Nat), ((l.map fun (k : Nat) => (k : Int)).any (· == (k : Int))) = decide (k ∈ l) := fun l k => by
      rw [Bool.eq_iff_iff, List.any_eq_true, decide_eq_true_eq]
      constructor
      · rintro ⟨y, hy, e⟩
        obtain ⟨x, hx, rfl⟩ := List.mem_map.mp hy
        have e' := beq_iff_eq.mp e
        have : x = k := by (walk_at "my om")
        subst this; exact hx
      · intro h
        exact ⟨(k : Int), List.mem_map.mpr ⟨k, h, rfl⟩, beq_self_eq_true _⟩
    -- due_fits
    refine BT_comp (own := true) (cl := [("places", L + 3), ("ends", L + 10)]) (ρ' := [("places", .list (nL (List.range (nums.length + 1)))), ("ends", .list endsL)]) (ns := List.range (nums.length + 1)) (P := fun (k : Nat) => PV.int (k : Int)) (q := fun _ => true) (f := fun (m : Nat) => PV.list (((List.range (nums.length + 1)).drop m).map fun e => PV.bool (decide (e ∈ endsOf tx pa m))))
      (by with_unfolding_all exact rfl) (by with_unfolding_all exact rfl) ?c1 ?c2 (fun h F => ?c3) ?c4 ?c5 ?c6 ?c7 ?c8 ?c9 ?c10 ?c11 ?_
    walk_at "my comp"
    case c3 => exact .list (EvalsTo.congr (x := .list (nL (List.range (nums.length + 1)))) (by walk_at "my ev") rfl)
    case c4 => rw [List.length_range]; (walk_at "my om")
    case c11 =>
      intro m hm C h' S'
      have hml := List.mem_range.mp hm
      refine ⟨Tests.nil, fun _ => EltTo.list (fun p hp => ?l1z) (EvalsTo.congr (E_Comp (own := false) (cl := [("m", C + 1), ("ends", L + 10)]) (ρ' := [("m", .int (m : Int)), ("ends", .list endsL)]) (ns := (List.range (nums.length + 1)).drop m) (P := fun (k : Nat) => PV.int (k : Int)) (q := fun _ => true) (f := fun e => PV.bool (decide (e ∈ endsOf tx pa m))) S' ?c1 ?c2 ?c3 ?c4 ?c5 ?c6 ?c7 ?c8 ?c9 ?c10 ?c11) (by rw [all_true]))⟩
      walk_at "my comp"
      case l1z =>
        obtain ⟨e, _, rfl⟩ := List.mem_map.mp hp
        trivial
      case c3 =>
        refine .list (EvalsTo.congr (E_SliceList (xs := nL (List.range (nums.length + 1))) (by walk_at "my ev") (O_some (by walk_at "my ev")) O_none O_none (by decide) (by rw [nL_length, List.length_range]; (walk_at "my om"))) ?_)
        rw [pickL_drop]
        unfold nL
        rw [List.map_drop]
      case c4 => rw [List.length_drop, List.length_range]; exact Nat.le_trans (Nat.sub_le _ _) (Nat.le_trans (Nat.succ_le_succ hn6) (by decide))
      case c11 =>
        intro e he C' h'' e' S''
        refine ⟨Tests.nil, fun _ => EltTo.flat trivial ?_⟩
        rw [← anyE]
        refine E_Compare (x := .int (e : Int)) (y := .list (iL ((endsOf tx pa m).map fun (k : Nat) => (k : Int)))) (by walk_at "my ev") ?_ C_in_ints (by with_unfolding_all exact rfl)
        rw [← nL_eq]
        exact E_Item (x := .list endsL) (y := .int (m : Int)) (by walk_at "my ev") (by walk_at "my ev") (G_list (by (walk_at "my om")) (by (walk_at "my om")) (hgetE m hml))
    rw [all_true]
    -- due_nearest
    refine BT_comp (own := false) (cl := [("size", L + 2), ("ends", L + 10)]) (ρ' := [("size", .int (nums.length : Int)), ("ends", .list endsL)]) (ns := List.range (nums.length + 1)) (P := fun (k : Nat) => PV.int (k : Int)) (q := fun _ => true) (f := fun (m : Nat) => PV.int (nearest tx pa m : Nat))
      (by with_unfolding_all exact rfl) (by with_unfolding_all exact rfl) ?c1 ?c2 (fun h F => ?c3) ?c4 ?c5 ?c6 ?c7 ?c8 ?c9 ?c10 ?c11 ?_
    walk_at "my comp"
    case c3 => exact .list (EvalsTo.congr (x := .list (nL (List.range (nums.length + 1)))) (by walk_at "my ev") rfl)
    case c4 => rw [List.length_range]; (walk_at "my om")
    case c11 =>
      intro m hm C h' S'
      have hml := List.mem_range.mp hm
      refine ⟨Tests.nil, fun _ => EltTo.flat trivial ?_⟩
      obtain ⟨n1, n2⟩ := nearest_spec h46 (tx := tx) (m := m) (by (walk_at "my om"))
      have hel' := hel m (by (walk_at "my om"))
      refine E_CallB S' (by with_unfolding_all exact rfl) (no_min _) bt_min (.inl ⟨_, rfl⟩) (by decide) (by with_unfolding_all exact rfl) (A_cons (EvalsTo.congr (E_BinOp (x := .list (nL (endsOf tx pa m))) (y := .list [.int ((nums.length : Int) + 1)]) (E_Item (x := .list endsL) (y := .int (m : Int)) (by walk_at "my ev") (by walk_at "my ev") (G_list (by (walk_at "my om")) (by (walk_at "my om")) (hgetE m hml))) (E_List (A_cons (E_BinOp (by walk_at "my ev") E_Int B_add_int) A_nil (by with_unfolding_all exact rfl)) (Nat.le_of_ble_eq_true rfl)) (B_add_list (by rw [nL_length, List.length_singleton]; (walk_at "my om")))) ?z1z) A_nil (by with_unfolding_all exact rfl)) (K_minl (ns := (endsOf tx pa m ++ [tx.length + 1]).map fun (k : Nat) => (k : Int)) S'.rm.h ?z2z ?z3z) (by with_unfolding_all exact rfl) (by with_unfolding_all exact rfl)
      case z1z =>
        rw [← nL_eq]
        unfold nL
        rw [List.map_append, htl]
        rfl
      case z2z => exact List.mem_map.mpr ⟨_, n1, rfl⟩
      case z3z =>
        intro a ha
        obtain ⟨k, hk, rfl⟩ := List.mem_map.mp ha
        have := n2 k hk
        (walk_at "my om")
    rw [all_true]
    -- due_farthest
    refine BT_comp (own := true) (cl := [("places", L + 3), ("ends", L + 10)]) (ρ' := [("places", .list (nL (List.range (nums.length + 1)))), ("ends", .list endsL)]) (ns := List.range (nums.length + 1)) (P := fun (k : Nat) => PV.int (k : Int)) (q := fun _ => true) (f := fun (p : Nat) => PV.int (farthest tx pa p : Nat))
      (by with_unfolding_all exact rfl) (by with_unfolding_all exact rfl) ?c1 ?c2 (fun h F => ?c3) ?c4 ?c5 ?c6 ?c7 ?c8 ?c9 ?c10 ?c11 ?_
    walk_at "my comp"
    case c3 => exact .list (EvalsTo.congr (x := .list (nL (List.range (nums.length + 1)))) (by walk_at "my ev") rfl)
    case c4 => rw [List.length_range]; (walk_at "my om")
    case c11 =>
      intro p hp C h' S'
      have hpl' := List.mem_range.mp hp
      refine ⟨Tests.nil, fun _ => EltTo.flat trivial ?_⟩
      obtain ⟨M, m1, m2⟩ := max_of (farL tx pa p)
      have hfar := farthest_spec h46 (tx := tx) (p := p) (M := M) (by (walk_at "my om")) m1 m2
      have hfl : (farL tx pa p).length ≤ tx.length + 1 := by
        unfold farL
        rw [List.length_map]
        have := List.length_filter_le (fun m => decide (p ∈ endsOf tx pa m)) (List.range (tx.length + 1))
        rw [List.length_range] at this; exact this
      refine EvalsTo.congr (E_CallB S' (by with_unfolding_all exact rfl) (no_min _) bt_min (.inl ⟨_, rfl⟩) (by decide) (by with_unfolding_all exact rfl) (A_cons (by walk_at "my ev") (A_cons (E_CallB S' (by with_unfolding_all exact rfl) (no_max _) bt_max (.inl ⟨_, rfl⟩) (by decide) (by with_unfolding_all exact rfl) (A_cons (EvalsTo.congr (E_BinOp (x := .list (nL (farL tx pa p))) (y := .list [.int 0]) ?z0z (E_List (A_cons E_Int A_nil (by with_unfolding_all exact rfl)) (Nat.le_of_ble_eq_true rfl)) (B_add_list (by rw [nL_length, List.length_singleton]; (walk_at "my om")))) ?z1z) A_nil (by with_unfolding_all exact rfl)) (K_maxl (ns := (farL tx pa p ++ [0]).map fun (k : Nat) => (k : Int)) (M := (M : Int)) S'.rm.h ?z2z ?z3z) (by with_unfolding_all exact rfl) (by with_unfolding_all exact rfl)) A_nil (by with_unfolding_all exact rfl)) (by with_unfolding_all exact rfl)) (K_min2i S'.rm.h) (by with_unfolding_all exact rfl) (by with_unfolding_all exact rfl)) (congrArg PV.int ?z4z)
      case z4z => rw [hfar]; exact (cmin _ _).symm
      case z1z =>
        rw [← nL_eq]
        unfold nL
        rw [List.map_append]
        rfl
      case z2z => exact List.mem_map.mpr ⟨_, m1, rfl⟩
      case z3z =>
        intro a ha
        obtain ⟨k, hk, rfl⟩ := List.mem_map.mp ha
        have := m2 k hk
        (walk_at "my om")
      case z0z =>
        refine EvalsTo.congr (E_unfresh (E_Comp (own := false) (cl := [("p", C + 1), ("ends", L + 10)]) (ρ' := [("p", .int (p : Int)), ("ends", .list endsL)]) (ns := List.range (nums.length + 1)) (P := fun (k : Nat) => PV.int (k : Int)) (q := fun m => decide (p ∈ endsOf tx pa m)) (f := fun (m : Nat) => PV.int ((m : Int) + 1)) S' ?c1 ?c2 ?c3 ?c4 ?c5 ?c6 ?c7 ?c8 ?c9 ?c10 ?c11)) ?_
        walk_at "my comp"
        case c3 => exact .list (EvalsTo.congr (x := .list (nL (List.range (nums.length + 1)))) (by walk_at "my ev") rfl)
        case c4 => rw [List.length_range]; (walk_at "my om")
        case c11 =>
          intro m hm C' h'' e' S''
          have hml := List.mem_range.mp hm
          refine ⟨Tests.one ?_, fun _ => EltTo.flat trivial (E_BinOp (by walk_at "my ev") E_Int B_add_int)⟩
          rw [← anyE]
          refine T_Compare (x := .int (p : Int)) (y := .list (iL ((endsOf tx pa m).map fun (k : Nat) => (k : Int)))) (by walk_at "my ev") ?_ C_in_ints (by with_unfolding_all exact rfl)
          rw [← nL_eq]
          exact E_Item (x := .list endsL) (y := .int (m : Int)) (by walk_at "my ev") (by walk_at "my ev") (G_list (by (walk_at "my om")) (by (walk_at "my om")) (hgetE m hml))
        · unfold farL nL
          rw [List.map_map, htl]
          rfl
    rw [all_true]
    -- the end
    have hfit : (List.range (nums.length + 1)).map (fun (m : Nat) => PV.list (((List.range (nums.length + 1)).drop m).map fun e => PV.bool (ellB (mkS (expand pa)) (cutT tx m e)))) = (List.range (nums.length + 1)).map (fun (m : Nat) => PV.list (((List.range (nums.length + 1)).drop m).map fun e => PV.bool (decide (e ∈ endsOf tx pa m)))) := by
      apply List.map_congr_left
      intro m hm
      congr 1
      apply List.map_congr_left
      intro e he
      have h1 := List.mem_range.mp (List.mem_of_mem_drop he)
      have h2 : m ≤ e := by
        obtain ⟨i, hi, e1⟩ := List.getElem_of_mem he
        rw [List.getElem_drop, List.getElem_range] at e1
        (walk_at "my om")
      rw [fit_eq h46 h2 (by (walk_at "my om"))]
    rw [hfit]
    clear hfit
    have hbb : (List.range (nums.length + 1)).map (fun (m : Nat) => PV.list (((List.range (nums.length + 1)).drop m).map fun e => PV.bool (decide (e ∈ endsOf tx pa m)))) = bbL ((List.range (nums.length + 1)).map fun m => ((List.range (nums.length + 1)).drop m).map fun e => decide (e ∈ endsOf tx pa m)) := by
      unfold bbL
      rw [List.map_map]
      apply List.map_congr_left
      intro m hm
      simp only [Function.comp]
      rw [List.map_map]; rfl
    rw [hbb]
    clear hbb
    generalize (List.range (nums.length + 1)).map (fun m => ((List.range (nums.length + 1)).drop m).map fun e => decide (e ∈ endsOf tx pa m)) = bb
    have inear : ∀ (f : Nat → Nat), (List.range (nums.length + 1)).map (fun (m : Nat) => PV.int (f m : Nat)) = iL ((List.range (nums.length + 1)).map fun m => ((f m : Nat) : Int)) := fun f => by unfold iL; rw [List.map_map]; rfl
    have inear2 : ∀ (f : Nat → Nat), nL ((List.range (nums.length + 1)).map f) = iL ((List.range (nums.length + 1)).map fun m => ((f m : Nat) : Int)) := fun f => by rw [nL_eq, List.map_map]; rfl
    rw [inear, inear, inear2, inear2]
    generalize (List.range (nums.length + 1)).map (fun m => ((nearest tx pa m : Nat) : Int)) = I1
    generalize (List.range (nums.length + 1)).map (fun m => ((farthest tx pa m : Nat) : Int)) = I2
    refine BT_ifFalse (fun h F => TestTo.congr (T_Or (x := false) (y := false) ?t1z ?t2z) rfl) ?_
    case t1z =>
      refine TestTo.congr (T_Compare (x := .list (iL (bordI nums))) (y := .list (iL (bordI nums))) (by walk_at "my ev") (E_CallB F.sit (by with_unfolding_all exact rfl) (no_sorted _) bt_sorted (.inl ⟨_, rfl⟩) (by decide) (by with_unfolding_all exact rfl) (by walk_at "my args") (K_sorted (by (walk_at "my om")) hbp hbs) (by with_unfolding_all exact rfl) (by with_unfolding_all exact rfl)) (C_ne_ints (units_ok F.rm F.hn)) (by with_unfolding_all exact rfl)) ?_
      rw [decide_eq_true rfl]; rfl
    case t2z => exact T_Compare (x := .list (bbL bb)) (y := .list (bbL bb)) (by walk_at "my ev") (by walk_at "my ev") (C_ne_bbs (units_ok F.rm F.hn)) (by with_unfolding_all exact rfl)
    refine BT_ret (fun h F => E_And (EvalsTo.congr (E_Compare (x := .list (iL I1)) (y := .list (iL I1)) (by walk_at "my ev") (by walk_at "my ev") (C_eq_ints (units_ok F.rm F.hn)) (by with_unfolding_all exact rfl)) (congrArg PV.bool (decide_eq_true rfl))) (EvalsTo.congr (E_Compare (x := .list (iL I2)) (y := .list (iL I2)) (by walk_at "my ev") (by walk_at "my ev") (C_eq_ints (units_ok F.rm F.hn)) (by with_unfolding_all exact rfl)) (congrArg PV.bool (decide_eq_true rfl))))
end
end Mine

set_option maxHeartbeats 8000000 in
theorem PySem.Challenge.cw_pg0232_01_holds : PySem.Challenge.rw_pg0232_01.Holds := by
  refine Mine.lawTop ?_
  k_fill
  intro w s₀ s₁ mg mb G Y fa o pm cd doc dV kV ho hd hcd hD hmg hg args vals as hpre hlay hrd hwl hlo
  have KX := km_in_of Y
  km_tabs Y
  have X := (Ground.X G).1
  have V := (Ground.X G).2
  refine Ground.open G ?_
  intro T B D TE TW
  try (refine guard_noD D (by decide +kernel) ?_; clear D)
  have hmg' := hmg
  km_lay T hmg ho hd cd
  clear hmg
  wrow_args hpre hlay hrd hwl hlo
  all_goals (
    first | refine callC_kw (enter_call ?_) | refine enter_call ?_
    w_top on
    kn_posts)
  have hfa : fa = 119 := by
    have h1 : mg "law" = some (.ref 119) := mg_of KX T.g (Mine.is_law w)
    have h2 : mg "law" = some (.ref fa) := hmg'
    rw [h1] at h2
    cases h2; rfl
  subst hfa
  rename_i ns _ _ _ _ _ _ _ l vs _ hL _ _ _ hI _ hlen _
  have h116 : s₁.heap.get? 116 = some (tabObj #[]) := (hT9 (118, 116) List.mem_cons_self).2
  have gh := ghost_top hT9 T
  obtain ⟨bm, ob, b1, b2, b3, b4, b5, b6⟩ := gh.bmain
  have hbP : bm ≠ 116 := fun q => by
    subst q
    have e := of_hideAll _ b3
    rw [h116] at e; cases e; cases b4
  have hbG : bm ≠ mainGlobals := fun q => by
    obtain ⟨o, es, ep, e, hd, _⟩ := gh.g
    rw [q, e] at b3; cases b3; rw [hd] at b6; cases b6
  refine Mine.law_spec (hb := ghostOf s₁.heap [(118, 116)]) (n := 0) (xs := ns)
    { X := ghost_K hT9 KX (by kernel_rfl), B := ⟨mb, gh.b, gh.builtins⟩, G := ⟨mg, gh.g⟩, L := gh.nolimit }
    { C := (ghost_code hT9).1, B := ⟨mg, gh.g, bm, ob, b1, b2, hbG, hbP, b3, b4, b5, b6⟩, no := hideAll_none _ (by simp) }
    (fun b o q => of_hideAll _ q) (fun P hP => ?_) (by rw [hideAll_size]; exact Nat.le_refl _) ⟨rfl, by decide, by decide⟩ (by decide)
    (.mkList hL (Mine.reps_ints hI)) (by (walk_at "my om")) (fun s' h1 h2 h3 => ?_)
  · rw [List.mem_singleton] at hP
    subst hP
    exact ⟨#[], h116, trivial, fun pos cv q => by cases q⟩
  · obtain ⟨hh, tk, rfl⟩ := h1
    refine ⟨⟨.inl ⟨_, .bool true, [], rfl, fun _ => rfl, .bool true, ?_, fun _ => ⟨.nil, fun a ha => by cases ha⟩⟩, fun b o q => h2 b o q, rfl, hg⟩, ?_, trivial⟩
    · show (WShape.has PySem.Challenge.rw_pg0232_01.row.records (.bool true) .bool && (WTm.eq .res (.lit (.bool true))).holds PySem.Challenge.rw_pg0232_01.row.records { args := [ofPy (PyData.list (ns.map PyData.int))], res := some (.bool true), after := [ofPy (PyData.list (ns.map PyData.int))] }) = true
      rw [Bool.and_eq_true]
      exact ⟨by first | rfl | simp [WShape.has], by simp [WTm.holds, WTm.value, PySem.W.same]⟩
    · obtain ⟨ps, e, _⟩ := h3 116 (List.mem_singleton.mpr rfl)
      exact ⟨ps, e⟩
