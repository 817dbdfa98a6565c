import Derived.Test.Qxb6603847aSplit
import Derived.Lib.AppendStr
import Derived.Deep.AppendLies
import Derived.Deep.OwnRows
namespace Go.Proofs.Qxb6603847a.S
open Go.RowKit

theorem info5 : (Try.prog.info? 5).map (fun i => (i.zero, i.size, i.bytes)) = some (some (.int .u8 0), 1, 1) := by kernel_rfl

set_option maxHeartbeats 400000 in
theorem bytes6 (s : ByteArray) (w : World) :
    Calls Try.prog 6 #[.string s] w fun e w' => e = .returned (.bool (decide (s.size ≤ 1048576))) ∧ w' = w := by
  by_cases h : s.size ≤ 1048576
  · have h2 : (s.size : Int) ≤ 1048576 := by omega
    go_enter Try.func6, Try.ntmps6
    go_wp2
    go_ret
    exact ⟨ret_b (by simp [h]), rfl⟩
  · have h2 : (1048576 : Int) < s.size := by omega
    go_enter Try.func6, Try.ntmps6
    go_wp2
    go_ret
    exact ⟨ret_b (by simp [h]), rfl⟩
theorem bytes6_yes (s : ByteArray) (w : World) (h : s.size ≤ 1048576) :
    Calls Try.prog 6 #[.string s] w fun e w' => e = .returned (.bool true) ∧ w' = w := by
  refine (bytes6 s w).mono ?_
  rintro e w' ⟨rfl, rfl⟩
  exact ⟨ret_b (decide_eq_true h), rfl⟩
theorem bytes6_no (s : ByteArray) (w : World) (h : ¬ s.size ≤ 1048576) :
    Calls Try.prog 6 #[.string s] w fun e w' => e = .returned (.bool false) ∧ w' = w := by
  refine (bytes6 s w).mono ?_
  rintro e w' ⟨rfl, rfl⟩
  exact ⟨ret_b (decide_eq_false h), rfl⟩

/-- the pieces lie in block g; they join to s -/
structure Parts (s : ByteArray) (w w1 : World) (v : Value) (P : List (List UInt8)) (g c : Nat) : Prop where
  form : v = .slice (some ⟨g, 0, none⟩) P.length c
  cells : ∀ i (h : i < P.length), w1.cell? ⟨g, i, none⟩ = some (.string ⟨(P[i]).toArray⟩)
  be : Below w.heap.size w w1
  join : (W P).flatten = s.data.toList
  pos : 0 < P.length
  ct : P.length ≤ s.data.toList.count 47 + 1

theorem parts_of {s : ByteArray} {w w1 : World} {v : Value} {acc : List (List UInt8)} {start : Nat} (hc : Cut s.data.toList acc start)
    (ho : w1.ownsRow w.heap.size 9 1 v (acc.length + 1) ((acc ++ [s.data.toList.drop start]).map strV)) (hb : Below w.heap.size w w1) : ∃ P g c, Parts s w w1 v P g c := by
  obtain ⟨g, c, rfl, _, _⟩ := ho.form (by omega)
  refine ⟨acc ++ [s.data.toList.drop start], g, c, { form := by simp, cells := fun i h => ?_, be := hb, join := by rw [W_join]; exact hc.eq, pos := by simp, ct := ?_ }⟩
  · have := ho.cells (g := g) rfl i (strV (acc ++ [s.data.toList.drop start])[i]) (by rw [List.getElem?_map, List.getElem?_eq_getElem h]; rfl)
    rw [show (⟨g, 0, none⟩ : Addr).add i = ⟨g, i, none⟩ by simp [Addr.add, eq_comm]] at this
    exact this
  · have h1 := hc.ct
    have h2 : (s.data.toList.take start).count 47 ≤ s.data.toList.count 47 := List.Sublist.count_le _ (List.take_sublist _ _)
    rw [List.length_append, List.length_singleton]
    omega

theorem parts_any (s : ByteArray) (m : Int) (w : World) (hs : s.size ≤ 65536) (hm : w.cell? ⟨0, 0, none⟩ = some (.int .i64 m)) :
    Calls Try.prog 11 #[.string s] w fun e w' => ∃ v P g c, e = .returned v ∧ Parts s w w' v P g c := by
  refine (split_any s m w hs hm).mono ?_
  rintro e w' ⟨v, acc, start, rfl, hc, ho, hb⟩
  obtain ⟨P, g, c, h⟩ := parts_of hc ho hb
  exact ⟨v, P, g, c, rfl, h⟩

set_option maxRecDepth 100000 in
set_option maxHeartbeats 400000 in
theorem zz_any (s : ByteArray) (m : Int) (w : World) (hs : s.size ≤ 65536) (hm : w.cell? ⟨0, 0, none⟩ = some (.int .i64 m)) :
    Calls Try.prog 7 #[.string s] w fun e w' => ∃ v P g c, e = .returned v ∧ Parts s w w' v P g c := by
  have hq := parts_any s m w hs hm
  go_enter Try.func7, Try.ntmps7
  go_wp2_with (first | (go_at_call 11; go_fit hq; rintro e w' ⟨v, P, g, c, rfl, h⟩; clear hq))
  go_ret
  exact ⟨_, P, g, c, rfl, h⟩
end Go.Proofs.Qxb6603847a.S
