/-
  The lines of a text: plain lists.
-/
import Derived.Test.Qxb6613956aFmtErrs
namespace Go.Proofs.Qxb6613956aFmt.W

/-- one byte more at the head of the first line -/
def put1 (c : UInt8) : List (List UInt8) → List (List UInt8)
  | [] => [[c]]
  | l :: ls => (c :: l) :: ls

def lns : List UInt8 → List (List UInt8)
  | [] => []
  | c :: t => if c = 10 then [c] :: lns t else put1 c (lns t)

theorem lns_step (T : List UInt8) (h : T ≠ []) : lns T = fl T :: lns (T.drop (fl T).length) := by
  induction T with
  | nil => exact absurd rfl h
  | cons c t ih =>
    rw [lns, fl]
    by_cases hc : c = 10
    · simp [hc]
    · rw [if_neg hc, if_neg hc]
      by_cases ht : t = []
      · subst ht; simp [lns, fl, put1]
      · rw [ih ht]; simp [put1]

theorem lns_ne (T : List UInt8) (h : T ≠ []) : lns T ≠ [] := by rw [lns_step T h]; simp

theorem lns_split (s t : List UInt8) : lns (s ++ 10 :: t) = lns (s ++ [10]) ++ lns t := by
  induction s with
  | nil => simp [lns]
  | cons c s ih =>
    rw [List.cons_append, List.cons_append, lns, lns]
    by_cases hc : c = 10
    · simp [hc, ih]
    · rw [if_neg hc, if_neg hc, ih]
      have := lns_ne (s ++ [10]) (by simp)
      cases hl : lns (s ++ [10]) with
      | nil => exact absurd hl this
      | cons l ls => simp [put1]

theorem lns_join (T : List UInt8) : (lns T).flatten = T := by
  induction T with
  | nil => rfl
  | cons c t ih =>
    rw [lns]
    by_cases hc : c = 10
    · simp [hc, ih]
    · rw [if_neg hc]
      conv => rhs; rw [← ih]
      cases lns t with
      | nil => simp [put1]
      | cons l ls => simp [put1]

theorem lns_pos (T : List UInt8) : ∀ l ∈ lns T, l ≠ [] := by
  induction T with
  | nil => simp [lns]
  | cons c t ih =>
    rw [lns]
    by_cases hc : c = 10
    · rw [if_pos hc]; intro l hl; rcases List.mem_cons.1 hl with rfl | hl
      · simp
      · exact ih l hl
    · rw [if_neg hc]
      cases hq : lns t with
      | nil => simp [put1]
      | cons l ls =>
        rw [hq] at ih
        intro l' hl'
        simp [put1] at hl'
        rcases hl' with rfl | hl'
        · simp
        · exact ih l' (by simp [hl'])

/-- a line feed stands at a line's end alone -/
theorem lns_only (T : List UInt8) : ∀ l ∈ lns T, ∀ j (h : j + 1 < l.length), l[j] ≠ 10 := by
  induction T with
  | nil => simp [lns]
  | cons c t ih =>
    rw [lns]
    by_cases hc : c = 10
    · rw [if_pos hc]; intro l hl; rcases List.mem_cons.1 hl with rfl | hl
      · intro j h; simp at h
      · exact ih l hl
    · rw [if_neg hc]
      cases hq : lns t with
      | nil => intro l hl; simp [put1] at hl; subst hl; intro j h; simp at h
      | cons l ls =>
        rw [hq] at ih
        intro l' hl'
        simp [put1] at hl'
        rcases hl' with rfl | hl'
        · intro j h
          cases j with
          | zero => simpa using hc
          | succ j => simpa using ih l (by simp) j (by simpa using h)
        · exact ih l' (by simp [hl'])

/-- all lines but the last end with a line feed -/
theorem lns_ends (T : List UInt8) : ∀ (i : Nat) (x : List UInt8), (lns T)[i]? = some x → i + 1 < (lns T).length → x.getLast? = some 10 := by
  induction T with
  | nil => simp [lns]
  | cons c t ih =>
    rw [lns]
    by_cases hc : c = 10
    · rw [if_pos hc]; intro i x hx h
      cases i with
      | zero => simp at hx; rw [← hx]; simp [hc]
      | succ i => exact ih i x (by simpa using hx) (by simpa using h)
    · rw [if_neg hc]
      cases hq : lns t with
      | nil => intro i x hx h; simp [put1] at h
      | cons l ls =>
        have hp := lns_pos t l (by rw [hq]; simp)
        rw [hq] at ih
        intro i x hx h
        cases i with
        | zero =>
          have := ih 0 l (by simp) (by simpa [put1] using h)
          simp [put1] at hx
          rw [← hx, List.getLast?_cons, this]; rfl
        | succ i => exact ih (i + 1) x (by simpa [put1] using hx) (by simpa [put1] using h)

/-- one more where the text is not empty and does not end with a line feed -/
def openEnd (T : List UInt8) : Nat := if T ≠ [] ∧ T.getLast? ≠ some 10 then 1 else 0

theorem lns_count (T : List UInt8) : (lns T).length = T.count 10 + openEnd T := by
  induction T with
  | nil => rfl
  | cons c t ih =>
    rw [lns, List.count_cons]
    by_cases ht : t = []
    · subst ht
      by_cases hc : c = 10
      · simp [hc, lns, openEnd]
      · simp [hc, lns, openEnd, put1]
    · have ho : openEnd (c :: t) = openEnd t := by
        unfold openEnd
        have e : (c :: t).getLast? = t.getLast? := by
          rw [List.getLast?_cons]
          cases hq : t.getLast? with
          | none => rw [List.getLast?_eq_none_iff] at hq; exact absurd hq ht
          | some x => rfl
        rw [e]; simp [ht]
      by_cases hc : c = 10
      · subst hc
        rw [if_pos rfl, ho]; simp [ih]; omega
      · rw [if_neg hc, ho]
        have := lns_ne t ht
        cases hq : lns t with
        | nil => exact absurd hq this
        | cons l ls =>
          rw [hq] at ih
          simp [put1, hc] at ih ⊢
          exact ih

theorem lns_len_le (T : List UInt8) : (lns T).length ≤ T.length := by
  induction T with
  | nil => simp [lns]
  | cons c t ih =>
    rw [lns]
    split
    · simp; omega
    · cases hq : lns t with
      | nil => simp [put1]
      | cons l ls => rw [hq] at ih; simp [put1] at ih ⊢; omega
end Go.Proofs.Qxb6613956aFmt.W
