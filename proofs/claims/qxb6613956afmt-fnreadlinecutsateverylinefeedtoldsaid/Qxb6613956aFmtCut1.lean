import Derived.Test.Qxb6613956aFmtAll
import Derived.Lib.AppendStr
namespace Go.Proofs.Qxb6613956aFmt.W
open Go.RowKit

set_option maxHeartbeats 400000 in
theorem bytes24 (s t : ByteArray) (w : World) :
    Calls Tryf.prog 24 #[.string s, .string t] w fun e w' => e = .returned (.bool (decide (s.size ≤ 1048576 ∧ t.size ≤ 1048576 ∧ s.size + t.size ≤ 1048576))) ∧ w' = w := by
  by_cases h1 : s.size ≤ 1048576
  · by_cases h2 : t.size ≤ 1048576
    · by_cases h3 : s.size + t.size ≤ 1048576
      all_goals
        go_enter Tryf.func24, Tryf.ntmps24
        go_wp2
        go_ret
        exact ⟨ret_b (by simp [h1, h2, h3]), rfl⟩
    · go_enter Tryf.func24, Tryf.ntmps24
      go_wp2
      go_ret
      exact ⟨ret_b (by simp [h2]), rfl⟩
  · go_enter Tryf.func24, Tryf.ntmps24
    go_wp2
    go_ret
    exact ⟨ret_b (by simp [h1]), rfl⟩

/-- a slice of strings that holds the lines ls, in block g -/
structure Row (w : World) (g : Nat) (v : Value) (ls : List (List UInt8)) : Prop where
  form : ∃ p cap, v = .slice p ls.length cap ∧ (0 < ls.length → p = some ⟨g, 0, none⟩)
  cells : ∀ i (h : i < ls.length), w.cell? ⟨g, i, none⟩ = some (.string ⟨(ls[i]).toArray⟩)

theorem row_of_own {w : World} {B : Nat} {v : Value} {ls : List (List UInt8)} (h : w.ownsRow B 9 1 v ls.length (ls.map strV)) : ∃ g, Row w g v ls ∧ (0 < ls.length → B ≤ g ∧ g < w.heap.size) := by
  rcases h with ⟨_, ⟨rfl, h0⟩ | ⟨g, cap, cur, rfl, hg, hh, h2, h3, h4, h5⟩⟩
  · exact ⟨0, ⟨⟨none, 0, by rw [h0], fun h => by omega⟩, fun i hi => by omega⟩, fun h => by omega⟩
  · refine ⟨g, ⟨⟨some ⟨g, 0, none⟩, cap, rfl, fun _ => rfl⟩, fun i hi => ?_⟩, fun _ => ⟨hg, lt_of_block hh⟩⟩
    rw [Joins.cell_of_block hh]
    have e : cur.toList[i]? = (ls.map strV)[i]? := by
      rw [← h5, List.getElem?_take, if_pos (by omega)]
    rw [← Array.getElem?_toList, e]
    simp [hi, strV]

theorem Row.upd {w w' : World} {g : Nat} {v : Value} {ls : List (List UInt8)} (h : Row w g v ls) (hb : 0 < ls.length → w'.heap[g]? = w.heap[g]?) : Row w' g v ls :=
  ⟨h.form, fun i hi => (World.cell?_of_block (w := w) (hb (by omega))).trans (h.cells i hi)⟩

theorem whole_text (s t : ByteArray) : (s ++ ⟨#[10]⟩ ++ t).data.toList = s.data.toList ++ 10 :: t.data.toList := by simp
theorem head_text (s : ByteArray) : (s ++ ⟨#[10]⟩).data.toList = s.data.toList ++ [10] := by simp

theorem bytes24_yes (s t : ByteArray) (w : World) (hs : s.size ≤ 524288) (ht : t.size ≤ 524288) :
    Calls Tryf.prog 24 #[.string s, .string t] w fun e w' => e = .returned (.bool true) ∧ w' = w := by
  refine (bytes24 s t w).mono ?_
  rintro e w' ⟨rfl, rfl⟩
  exact ⟨ret_b (by simp; omega), rfl⟩

theorem Errs.grow {w : World} {B B' : Nat} {ea fa : Addr} (h : Errs w B ea fa) (h1 : B ≤ B') (h2 : B' ≤ w.heap.size) : Errs w B' ea fa :=
  { h with be := Nat.lt_of_lt_of_le h.be h1, bf := Nat.lt_of_lt_of_le h.bf h1, b4 := Nat.lt_of_lt_of_le h.b4 h1, sz := h2 }

/-- what the three calls of zzAllLines leave -/
structure Three (s t : ByteArray) (w w3 : World) (v1 v2 v3 : Value) (LW LH LT : List (List UInt8)) (g1 c1 g2 c2 g3 c3 : Nat) (p3 : Option Addr) : Prop where
  eW : LW = lns (s.data.toList ++ 10 :: t.data.toList)
  eH : LH = lns (s.data.toList ++ [10])
  eT : LT = lns t.data.toList
  app : LW = LH ++ LT
  f1 : v1 = .slice (some ⟨g1, 0, none⟩) LW.length c1
  f2 : v2 = .slice (some ⟨g2, 0, none⟩) LH.length c2
  f3 : v3 = .slice p3 LT.length c3
  q3 : 0 < LT.length → p3 = some ⟨g3, 0, none⟩
  k1 : ∀ i (h : i < LW.length), w3.cell? ⟨g1, i, none⟩ = some (.string ⟨(LW[i]).toArray⟩)
  k2 : ∀ i (h : i < LH.length), w3.cell? ⟨g2, i, none⟩ = some (.string ⟨(LH[i]).toArray⟩)
  k3 : ∀ i (h : i < LT.length), w3.cell? ⟨g3, i, none⟩ = some (.string ⟨(LT[i]).toArray⟩)
  up : Upd [] w w3
  b1 : w.heap.size ≤ g1
  z1 : g1 < w3.heap.size
  pW : 0 < LW.length
  pH : 0 < LH.length
  cW : LW.length ≤ s.size + 1 + t.size
  lW : LW.length = LH.length + LT.length

theorem three_of {s t : ByteArray} {w w1 w2 w3 : World} {v1 v2 v3 : Value} (ho1 : w1.ownsRow w.heap.size 9 1 v1 (lns (s ++ ⟨#[10]⟩ ++ t).data.toList).length ((lns (s ++ ⟨#[10]⟩ ++ t).data.toList).map strV)) (hu1 : Upd [] w w1)
    (ho2 : w2.ownsRow w1.heap.size 9 1 v2 (lns (s ++ ⟨#[10]⟩).data.toList).length ((lns (s ++ ⟨#[10]⟩).data.toList).map strV)) (hu2 : Upd [] w1 w2)
    (ho3 : w3.ownsRow w2.heap.size 9 1 v3 (lns t.data.toList).length ((lns t.data.toList).map strV)) (hu3 : Upd [] w2 w3) :
    ∃ LW LH LT g1 c1 g2 c2 g3 c3 p3, Three s t w w3 v1 v2 v3 LW LH LT g1 c1 g2 c2 g3 c3 p3 := by
  rw [whole_text] at ho1
  rw [head_text] at ho2
  obtain ⟨g1, R1, hg1⟩ := row_of_own ho1
  obtain ⟨g2, R2, hg2⟩ := row_of_own ho2
  obtain ⟨g3, R3, hg3⟩ := row_of_own ho3
  have hpW : 0 < (lns (s.data.toList ++ 10 :: t.data.toList)).length := by rw [lns_step _ (by simp)]; simp
  have hpH : 0 < (lns (s.data.toList ++ [10])).length := by rw [lns_step _ (by simp)]; simp
  have z2 := hu2.size
  have z3 := hu3.size
  have R1' := R1.upd (w' := w3) (fun h0 => (hu3.block g1 (by have := (hg1 h0).2; omega) (by simp)).trans (hu2.block g1 (hg1 h0).2 (by simp)))
  have R2' := R2.upd (w' := w3) (fun h0 => hu3.block g2 (hg2 h0).2 (by simp))
  obtain ⟨p1, c1, hv1, hp1⟩ := R1'.form
  obtain ⟨p2, c2, hv2, hp2⟩ := R2'.form
  obtain ⟨p3, c3, hv3, hp3⟩ := R3.form
  rw [hp1 hpW] at hv1
  rw [hp2 hpH] at hv2
  have happ := lns_split s.data.toList t.data.toList
  refine ⟨_, _, _, g1, c1, g2, c2, g3, c3, p3, { eW := rfl, eH := rfl, eT := rfl, app := happ, f1 := hv1, f2 := hv2, f3 := hv3, q3 := hp3, k1 := R1'.cells, k2 := R2'.cells, k3 := R3.cells, up := (hu1.trans hu2).trans hu3, b1 := (hg1 hpW).1, z1 := by have := (hg1 hpW).2; omega, pW := hpW, pH := hpH, cW := ?_, lW := by rw [happ]; simp }⟩
  have := lns_len_le (s.data.toList ++ 10 :: t.data.toList)
  rw [List.length_append, List.length_cons, ← Lib.size_eq, ← Lib.size_eq] at this
  omega

end Go.Proofs.Qxb6613956aFmt.W
