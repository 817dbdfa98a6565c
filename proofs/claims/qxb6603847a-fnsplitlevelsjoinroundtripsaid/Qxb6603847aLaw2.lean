import Derived.Test.Qxb6603847aLaw
namespace Go.Proofs.Qxb6603847a.S
open Go.RowKit

/-- slashes in the first i bytes -/
def cnt (s : ByteArray) (i : Nat) : Nat := (s.data.toList.take i).count 47
theorem cnt_zero (s : ByteArray) : cnt s 0 = 0 := by simp [cnt]
theorem cnt_all (s : ByteArray) (i : Nat) (h : ¬ i < s.size) : cnt s i = s.data.toList.count 47 := by
  unfold cnt; rw [List.take_of_length_le (by rw [← Lib.size_eq]; omega)]
theorem cnt_le (s : ByteArray) (i : Nat) : cnt s i ≤ i := by
  unfold cnt; refine Nat.le_trans List.count_le_length ?_; simp; omega
theorem cnt_hit {s : ByteArray} {i : Nat} (h : i < s.size) (hc : ((s[i].toNat : Int) == 47) = true) : cnt s (i + 1) = cnt s i + 1 := by
  unfold cnt
  have hl : i < s.data.toList.length := by rw [← Lib.size_eq]; exact h
  have : s.data.toList[i] = 47 := byte_is (n := 47) hc
  rw [List.take_add_one, List.getElem?_eq_getElem hl, this]
  simp
theorem cnt_miss {s : ByteArray} {i : Nat} (h : i < s.size) (hc : ((s[i].toNat : Int) == 47) = false) : cnt s (i + 1) = cnt s i := by
  unfold cnt
  have hl : i < s.data.toList.length := by rw [← Lib.size_eq]; exact h
  have : ¬ s.data.toList[i] = 47 := by
    intro e
    have e2 : s[i] = 47 := e
    rw [e2] at hc
    revert hc; decide
  rw [List.take_add_one, List.getElem?_eq_getElem hl, List.count_append]
  have e0 : List.count 47 (some s.data.toList[i]).toList = 0 := by
    rw [List.count_eq_zero]; simp only [Option.toList_some, List.mem_singleton]; exact fun e => this e.symm
  omega

theorem strCells_app (a b : List UInt8) : Lib.strCells ⟨(a ++ b).toArray⟩ = Lib.strCells ⟨a.toArray⟩ ++ Lib.strCells ⟨b.toArray⟩ := by
  simp [Lib.strCells]

/-- the loop that joins the pieces -/
structure JJ (w1 wr : World) (P : List (List UInt8)) (v : Value) (T : List UInt8) : Prop where
  ow : wr.ownsRow w1.heap.size 5 1 v T.length (Lib.strCells ⟨T.toArray⟩)
  be : Below w1.heap.size w1 wr

theorem JJ.start (w1 : World) (P : List (List UInt8)) : JJ w1 w1 P (.slice none 0 0) (pre P 0) :=
  { ow := by simp [pre, Lib.strCells]; exact World.ownsRow_nil _ _ _ _, be := Below.refl _ _ }

theorem JJ.add {w1 wr w4 : World} {P : List (List UInt8)} {v v' : Value} {T A : List UInt8} (h : JJ w1 wr P v T)
    (ho : w4.ownsRow w1.heap.size 5 1 v' (T.length + A.length) (Lib.strCells ⟨T.toArray⟩ ++ Lib.strCells ⟨A.toArray⟩)) (hg : wr.grownBy w4 v.ownBlock) : JJ w1 w4 P v' (T ++ A) := by
  refine { ow := ?_, be := h.be.grown hg h.be.size (fun k hk => own_ge h.ow k hk) }
  rw [strCells_app, List.length_append]
  exact ho
end Go.Proofs.Qxb6603847a.S
