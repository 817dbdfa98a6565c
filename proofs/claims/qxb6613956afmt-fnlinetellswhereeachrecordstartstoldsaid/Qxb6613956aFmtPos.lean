/-
  Places in a string, against the plain grammar.
-/
import Derived.Test.Qxb6613956aFmtRec
namespace Go.Proofs.Qxb6613956aFmt.W
open Go.RowKit

/-- the text from place i on -/
def tl (s : ByteArray) (i : Nat) : List UInt8 := s.data.toList.drop i
/-- the bytes from a up to b -/
def pc (s : ByteArray) (a b : Nat) : List UInt8 := (tl s a).take (b - a)

section
variable {s : ByteArray} {i a b c j k : Nat}
theorem tl_len (s : ByteArray) (i : Nat) : (tl s i).length = s.size - i := by rw [tl, List.length_drop, ← Lib.size_eq]
theorem tl_nil (h : s.size ≤ i) : tl s i = [] := List.eq_nil_of_length_eq_zero (by rw [tl_len]; omega)
theorem tl_ne (h : i < s.size) : tl s i ≠ [] := fun e => by have := congrArg List.length e; rw [tl_len] at this; simp at this; omega
theorem tl_cons (h : i < s.size) : tl s i = s[i] :: tl s (i + 1) := by
  unfold tl
  rw [List.drop_eq_getElem_cons (by rw [← Lib.size_eq]; exact h)]
  rfl
theorem tl_drop (s : ByteArray) (i k : Nat) : (tl s i).drop k = tl s (i + k) := by rw [tl, List.drop_drop]; rfl
theorem tl_tail (s : ByteArray) (i : Nat) : (tl s i).tail = tl s (i + 1) := by rw [← List.drop_one, tl_drop]
theorem lend_eq (s : ByteArray) (i : Nat) : lend s i = i + (fl (tl s i)).length := rfl
theorem tl_fl (s : ByteArray) (i : Nat) : (tl s i).drop (fl (tl s i)).length = tl s (lend s i) := tl_drop s i _
theorem pc_len (h : b ≤ s.size) : (pc s a b).length = b - a := by rw [pc, List.length_take, tl_len]; omega
theorem pc_self (s : ByteArray) (a : Nat) : pc s a a = [] := by simp [pc]
theorem pc_succ (h : a ≤ b) (hb : b < s.size) : pc s a (b + 1) = pc s a b ++ [s[b]] := by
  unfold pc
  rw [show b + 1 - a = (b - a) + 1 by omega, List.take_add_one]
  congr 1
  rw [tl, List.getElem?_drop, show a + (b - a) = b by omega, List.getElem?_eq_getElem (by rw [← Lib.size_eq]; exact hb)]
  rfl
theorem pc_split (h : a ≤ b) (_hb : b ≤ s.size) : tl s a = pc s a b ++ tl s b := by
  unfold pc
  conv => lhs; rw [← List.take_append_drop (b - a) (tl s a)]
  rw [tl_drop, show a + (b - a) = b by omega]
theorem pc_fl (s : ByteArray) (i : Nat) : pc s i (lend s i) = fl (tl s i) := by
  rw [pc, lend_eq, show i + (fl (tl s i)).length - i = (fl (tl s i)).length by omega, fl_take]
theorem lend_le (h : i ≤ s.size) : i ≤ lend s i ∧ lend s i ≤ s.size := by
  have := fl_le (tl s i)
  rw [tl_len] at this
  rw [lend_eq]; omega
theorem lend_lt (h : i < s.size) : i < lend s i := by
  have := fl_pos (tl s i) (tl_ne h)
  rw [lend_eq]; omega
theorem pc_app (h : a ≤ b) (hbc : b ≤ c) (hc : c ≤ s.size) : pc s a c = pc s a b ++ pc s b c := by
  have h1 := pc_split (s := s) (a := a) (b := c) (by omega) hc
  have h2 := pc_split (s := s) h (by omega)
  have h3 := pc_split (s := s) hbc hc
  rw [h2, h3, ← List.append_assoc] at h1
  exact (List.append_cancel_right h1).symm
theorem ext_pc (s : ByteArray) (a b : Nat) : s.extract a b = ⟨(pc s a b).toArray⟩ := by
  apply ByteArray.ext
  apply Array.ext'
  rw [Lib.extract_data]
  rfl
theorem byte_is {x c : UInt8} (h : ((x.toNat : Int) == (c.toNat : Int)) = true) : x = c := by
  rw [beq_iff_eq] at h
  exact UInt8.toNat_inj.1 (Int.ofNat.inj h)
theorem byte_not {x c : UInt8} (h : ((x.toNat : Int) == (c.toNat : Int)) = false) : x ≠ c := by
  rintro rfl
  simp at h

theorem sk_lf (h : i < s.size) (hc : s[i] = 10) : unbl (tl s i) = unbl (tl s (i + 1)) := by rw [tl_cons h, hc, unbl_lf]
theorem sk_crlf (h : i + 1 < s.size) (hc : s[i] = 13) (hd : s[i + 1] = 10) : unbl (tl s i) = unbl (tl s (i + 2)) := by
  rw [tl_cons (show i < s.size by omega), hc, tl_cons h, hd, unbl_crlf]
theorem sk_cr (h : i + 1 = s.size) (hc : s[i]'(by omega) = 13) : unbl (tl s i) = unbl (tl s (i + 1)) := by
  rw [tl_cons (show i < s.size by omega), hc, tl_nil (by omega)]; rfl
theorem sk_end (h : ¬ i < s.size) : unbl (tl s i) = tl s i := by rw [tl_nil (by omega)]; rfl
theorem sk_last (h : i + 1 = s.size) (h1 : s[i]'(by omega) ≠ 10) (h2 : s[i]'(by omega) ≠ 13) : unbl (tl s i) = tl s i := by
  rw [tl_cons (show i < s.size by omega), tl_nil (show s.size ≤ i + 1 by omega)]
  simp [unbl, h1, h2]
theorem sk_mid (h : i + 1 < s.size) (h1 : s[i] ≠ 10) (h2 : ¬ (s[i] = 13 ∧ s[i + 1] = 10)) : unbl (tl s i) = tl s i := by
  rw [tl_cons (show i < s.size by omega), tl_cons h, unbl, if_neg h1, if_neg h2]

/-- b, less one where c stands ahead of it -/
def cb (s : ByteArray) (c : UInt8) (a b : Nat) : Nat := if a < b ∧ s.data.toList[b - 1]? = some c then b - 1 else b
theorem cb_ge (c : UInt8) (h : a ≤ b) : a ≤ cb s c a b ∧ cb s c a b ≤ b := by unfold cb; split <;> omega
theorem cb_hit {x : UInt8} (h : a < b) (hb : b ≤ s.size) (hx : s[b - 1]'(by omega) = x) : cb s x a b = b - 1 := by
  unfold cb
  rw [if_pos ⟨h, by rw [List.getElem?_eq_getElem (by rw [← Lib.size_eq]; omega)]; exact congrArg some hx⟩]
theorem cb_miss {x : UInt8} (h : a < b) (hb : b ≤ s.size) (hx : s[b - 1]'(by omega) ≠ x) : cb s x a b = b := by
  unfold cb
  rw [if_neg]
  rintro ⟨_, h2⟩
  rw [List.getElem?_eq_getElem (by rw [← Lib.size_eq]; omega)] at h2
  exact hx (Option.some.inj h2)
theorem cb_none {x : UInt8} (h : ¬ a < b) : cb s x a b = b := by unfold cb; rw [if_neg (fun hh => h hh.1)]
theorem chop_pc (x : UInt8) (h : a ≤ b) (hb : b ≤ s.size) : chop x (pc s a b) = pc s a (cb s x a b) := by
  by_cases hlt : a < b
  · obtain ⟨m, rfl⟩ : ∃ m, b = m + 1 := ⟨b - 1, by omega⟩
    rw [pc_succ (by omega) (by omega)]
    by_cases hx : s[m] = x
    · rw [cb_hit hlt hb (by simpa using hx), ← hx, chop_app]; simp
    · rw [cb_miss hlt hb (by simpa using hx), chop_not (by simpa using hx), pc_succ (by omega) (by omega)]
  · rw [cb_none hlt]
    obtain rfl : a = b := by omega
    rw [pc_self, chop_nil]
theorem trim_pc (h : a ≤ b) (hb : b ≤ s.size) : trim (pc s a b) = pc s a (cb s 13 a (cb s 10 a b)) := by
  have h1 := cb_ge (s := s) 10 h
  rw [trim, chop_pc 10 h hb, chop_pc 13 h1.1 (by omega)]
theorem pc_nil (hb : b ≤ s.size) : pc s a b = [] ↔ b ≤ a := by
  rw [← List.length_eq_zero_iff, pc_len hb]; omega
end
end Go.Proofs.Qxb6613956aFmt.W
