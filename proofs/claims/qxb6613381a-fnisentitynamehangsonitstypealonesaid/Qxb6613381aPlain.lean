/-
  The plain part of FnIsEntityNameHangsOnItsTypeAlone: lists of bytes, no Go.
-/
import Derived.Lib.IndexMore
namespace Go.Proofs.Qxb6613381a.Plain
open Go

theorem index_none (l : List UInt8) (h : (58 : UInt8) ∉ l) : Lib.index l [58] = -1 := by
  induction l with
  | nil => rfl
  | cons b l ih =>
    simp only [List.mem_cons, not_or] at h
    unfold Lib.index
    have h1 : ([58] : List UInt8).isPrefixOf (b :: l) = false := by simp [List.isPrefixOf, h.1]
    rw [h1, ih h.2]; rfl

theorem index_some (t r : List UInt8) (h : (58 : UInt8) ∉ t) : Lib.index (t ++ 58 :: r) [58] = t.length := by
  induction t with
  | nil => simp [Lib.index, List.isPrefixOf]
  | cons b l ih =>
    simp only [List.mem_cons, not_or] at h
    rw [List.cons_append]
    unfold Lib.index
    have h1 : ([58] : List UInt8).isPrefixOf (b :: (l ++ 58 :: r)) = false := by simp [List.isPrefixOf, h.1]
    rw [h1, ih h.2]
    have : ((l.length : Int) == -1) = false := by rw [beq_eq_false_iff_ne]; omega
    simp [this]

theorem cut_none (l : List UInt8) (h : (58 : UInt8) ∉ l) : Lib.cut l [58] = (l, [], false) := by
  unfold Lib.cut; rw [index_none l h]; rfl

theorem cut_some (t r : List UInt8) (h : (58 : UInt8) ∉ t) : Lib.cut (t ++ 58 :: r) [58] = (t, r, true) := by
  unfold Lib.cut; rw [index_some t r h]
  have e : ((t.length : Int)).toNat + ([58] : List UInt8).length = t.length + 1 := by simp
  rw [if_pos (by omega), e]
  simp

theorem parts (l : List UInt8) : (58 : UInt8) ∉ l ∨ ∃ t r, (58 : UInt8) ∉ t ∧ l = t ++ 58 :: r := by
  induction l with
  | nil => exact .inl (by simp)
  | cons b l ih =>
    by_cases hb : b = 58
    · subst hb; exact .inr ⟨[], l, by simp, rfl⟩
    · rcases ih with h | ⟨t, r, h, e⟩
      · exact .inl (by simp only [List.mem_cons, not_or]; exact ⟨fun k => hb k.symm, h⟩)
      · exact .inr ⟨b :: t, r, by simp only [List.mem_cons, not_or]; exact ⟨fun k => hb k.symm, h⟩, by rw [e]; rfl⟩

/-- a letter, a digit, or one of the three marks -/
def okB (c : UInt8) : Bool := (97 ≤ c && c ≤ 122) || (65 ≤ c && c ≤ 90) || (48 ≤ c && c ≤ 57) || c == 46 || c == 95 || c == 45

/-- what SplitEntity answers -/
def typ (l : List UInt8) : List UInt8 := if (Lib.cut l [58]).2.2 && !(Lib.cut l [58]).1.isEmpty && !(Lib.cut l [58]).2.1.isEmpty then (Lib.cut l [58]).1 else []
def idn (l : List UInt8) : List UInt8 := if (Lib.cut l [58]).2.2 && !(Lib.cut l [58]).1.isEmpty && !(Lib.cut l [58]).2.1.isEmpty then (Lib.cut l [58]).2.1 else []
def okS (l : List UInt8) : Bool := (Lib.cut l [58]).2.2 && !(Lib.cut l [58]).1.isEmpty && !(Lib.cut l [58]).2.1.isEmpty
def ent (l : List UInt8) : Bool := okS l && (typ l).all okB

theorem three_none (l : List UInt8) (h : (58 : UInt8) ∉ l) : typ l = [] ∧ idn l = [] ∧ okS l = false := by
  simp [typ, idn, okS, cut_none l h]

theorem three_some (t r : List UInt8) (h : (58 : UInt8) ∉ t) (ht : t ≠ []) (hr : r ≠ []) : typ (t ++ 58 :: r) = t ∧ idn (t ++ 58 :: r) = r ∧ okS (t ++ 58 :: r) = true := by
  simp [typ, idn, okS, cut_some t r h, ht, hr]

theorem three_bad (t r : List UInt8) (h : (58 : UInt8) ∉ t) (hb : t = [] ∨ r = []) : typ (t ++ 58 :: r) = [] ∧ idn (t ++ 58 :: r) = [] ∧ okS (t ++ 58 :: r) = false := by
  unfold typ idn okS
  rw [cut_some t r h]
  rcases hb with hb | hb <;> simp [hb]

/-- the three cases of a name -/
theorem cases3 (l : List UInt8) : (typ l = [] ∧ idn l = [] ∧ okS l = false) ∨ ∃ t r, (58 : UInt8) ∉ t ∧ t ≠ [] ∧ r ≠ [] ∧ l = t ++ 58 :: r ∧ typ l = t ∧ idn l = r ∧ okS l = true := by
  rcases parts l with h | ⟨t, r, h, rfl⟩
  · exact .inl (three_none l h)
  · by_cases ht : t = []
    · exact .inl (three_bad t r h (.inl ht))
    · by_cases hr : r = []
      · exact .inl (three_bad t r h (.inr hr))
      · exact .inr ⟨t, r, h, ht, hr, rfl, three_some t r h ht hr⟩

/-- the first law -/
theorem law1 (l : List UInt8) : ent l = (okS l && ent (typ l ++ [58, 120])) := by
  rcases cases3 l with ⟨_, _, h3⟩ | ⟨t, r, h, ht, hr, e, e1, e2, e3⟩
  · simp [ent, h3]
  · have := three_some t [120] h ht (by simp)
    simp only [ent, e1, e3]
    rw [this.1, this.2.2]
    simp

theorem law2 (l : List UInt8) (h : okS l = true) : typ l ++ [58] ++ idn l = l := by
  rcases cases3 l with ⟨_, _, h3⟩ | ⟨t, r, h, ht, hr, e, e1, e2, e3⟩
  · rw [h3] at h; cases h
  · rw [e1, e2, e]; simp

theorem law3 (l : List UInt8) : ent ([120, 58] ++ l) = !l.isEmpty := by
  have hx : (58 : UInt8) ∉ ([120] : List UInt8) := by decide
  by_cases hl : l = []
  · subst hl
    have := three_bad [120] [] hx (.inr rfl)
    have e : ([120, 58] : List UInt8) ++ [] = [120] ++ 58 :: [] := rfl
    rw [e, ent, this.2.2]; rfl
  · have := three_some [120] l hx (by simp) hl
    have e : ([120, 58] : List UInt8) ++ l = [120] ++ 58 :: l := rfl
    rw [e, ent, this.2.2, this.1]
    cases l
    · exact absurd rfl hl
    · rfl

theorem typ_le (l : List UInt8) : (typ l).length ≤ l.length := by
  rcases cases3 l with ⟨h1, _, _⟩ | ⟨t, r, h, ht, hr, e, e1, e2, e3⟩
  · rw [h1]; simp
  · rw [e1, e]; simp

theorem idn_le (l : List UInt8) : (idn l).length ≤ l.length := by
  rcases cases3 l with ⟨_, h1, _⟩ | ⟨t, r, h, ht, hr, e, e1, e2, e3⟩
  · rw [h1]; simp
  · rw [e2, e]; simp; omega

end Go.Proofs.Qxb6613381a.Plain
