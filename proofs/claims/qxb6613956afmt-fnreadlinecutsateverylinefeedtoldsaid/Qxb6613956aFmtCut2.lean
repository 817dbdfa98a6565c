import Derived.Test.Qxb6613956aFmtCut1
namespace Go.Proofs.Qxb6613956aFmt.W
open Go.RowKit

/-- what one call of zzAllLines leaves -/
structure AllOut (s : ByteArray) (w w' : World) (v : Value) : Prop where
  ow : w'.ownsRow w.heap.size 9 1 v (lns s.data.toList).length ((lns s.data.toList).map strV)
  up : Upd [] w w'

theorem allLines_out (s : ByteArray) (ea fa : Addr) (w : World) (he : Errs w w.heap.size ea fa) (hs : s.size ≤ 1048600) :
    Calls Tryf.prog 25 #[.string s] w fun e w' => ∃ v, e = .returned (.tuple #[v, .bool true]) ∧ AllOut s w w' v := by
  refine (allLines_any s ea fa w he hs).mono ?_
  rintro e w' ⟨v, rfl, h1, h2⟩
  exact ⟨v, rfl, h1, h2⟩

theorem app_l {LW LH LT : List (List UInt8)} (h : LW = LH ++ LT) (i : Nat) (h1 : i < LH.length) (h2 : i < LW.length) : LW[i] = LH[i] := by
  subst h; exact List.getElem_append_left h1
theorem app_r {LW LH LT : List (List UInt8)} (h : LW = LH ++ LT) (i : Nat) (h1 : i < LT.length) (h2 : LH.length + i < LW.length) : LW[LH.length + i] = LT[i] := by
  subst h; rw [List.getElem_append_right (by omega)]; simp

/-- line feeds in the first i bytes -/
def cnt (s : ByteArray) (i : Nat) : Nat := (s.data.toList.take i).count 10
theorem cnt_zero (s : ByteArray) : cnt s 0 = 0 := by simp [cnt]
theorem cnt_all (s : ByteArray) (i : Nat) (h : ¬ i < s.size) : cnt s i = s.data.toList.count 10 := by
  unfold cnt; rw [List.take_of_length_le (by rw [← Lib.size_eq]; omega)]
theorem cnt_le (s : ByteArray) (i : Nat) : cnt s i ≤ i := by
  unfold cnt; refine Nat.le_trans List.count_le_length ?_; simp; omega
theorem cnt_hit {s : ByteArray} {i : Nat} (h : i < s.size) (hc : (s[i].toNat : Int) = 10) : cnt s (i + 1) = cnt s i + 1 := by
  unfold cnt
  have hl : i < s.data.toList.length := by rw [← Lib.size_eq]; exact h
  have : s.data.toList[i] = 10 := by
    apply UInt8.toNat_inj.1
    have h2 : (s[i].toNat : Int) = ((10 : UInt8).toNat : Int) := hc
    exact Int.ofNat.inj h2
  rw [List.take_add_one, List.getElem?_eq_getElem hl, this]
  simp
theorem cnt_miss {s : ByteArray} {i : Nat} (h : i < s.size) (hc : ¬ (s[i].toNat : Int) = 10) : cnt s (i + 1) = cnt s i := by
  unfold cnt
  have hl : i < s.data.toList.length := by rw [← Lib.size_eq]; exact h
  have : ¬ s.data.toList[i] = 10 := by
    intro e; apply hc
    have : s[i] = 10 := e
    rw [this]; rfl
  rw [List.take_add_one, List.getElem?_eq_getElem hl]
  rw [List.count_append]
  have e0 : List.count 10 (some s.data.toList[i]).toList = 0 := by
    rw [List.count_eq_zero]; simp only [Option.toList_some, List.mem_singleton]; exact fun e => this e.symm
  omega

theorem want_0 (s t : ByteArray) (h : t.size = 0) : (lns (s.data.toList ++ 10 :: t.data.toList)).length = 1 + s.data.toList.count 10 + t.data.toList.count 10 := by
  rw [lns_count]
  have e : t.data.toList = [] := List.eq_nil_of_length_eq_zero (by rw [← Lib.size_eq]; exact h)
  rw [e]
  simp [openEnd]
  omega
theorem last_at (t : ByteArray) (h : t.size - 1 < t.size) : t.data.toList.getLast? = some t[t.size - 1] := by
  rw [List.getLast?_eq_getElem?, ← Lib.size_eq, List.getElem?_eq_getElem (by rw [← Lib.size_eq]; exact h)]
  rfl
theorem open_t (s t : ByteArray) (h : t.size - 1 < t.size) : (s.data.toList ++ 10 :: t.data.toList).getLast? = some t[t.size - 1] := by
  rw [List.getLast?_append, List.getLast?_cons, last_at t h]; rfl
theorem want_1 (s t : ByteArray) (h : t.size - 1 < t.size) (hc : (t[t.size - 1].toNat : Int) = 10) : (lns (s.data.toList ++ 10 :: t.data.toList)).length = 1 + s.data.toList.count 10 + t.data.toList.count 10 := by
  rw [lns_count, openEnd, open_t s t h]
  have : t[t.size - 1] = 10 := by
    apply UInt8.toNat_inj.1
    have h2 : (t[t.size - 1].toNat : Int) = ((10 : UInt8).toNat : Int) := hc
    exact Int.ofNat.inj h2
  rw [this]
  simp
  omega
theorem want_2 (s t : ByteArray) (h : t.size - 1 < t.size) (hc : ¬ (t[t.size - 1].toNat : Int) = 10) : (lns (s.data.toList ++ 10 :: t.data.toList)).length = 1 + s.data.toList.count 10 + t.data.toList.count 10 + 1 := by
  rw [lns_count, openEnd, open_t s t h]
  have : ¬ t[t.size - 1] = 10 := by
    intro e; apply hc; rw [e]; rfl
  rw [if_pos (by simp; exact this)]
  simp
  omega

end Go.Proofs.Qxb6613956aFmt.W
