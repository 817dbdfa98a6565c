import Derived.Test.Qxb6613956aFmtFill
import Derived.Deep.DeepFit
namespace Go.Proofs.Qxb6613956aFmt.W
open Go.RowKit
set_option maxRecDepth 100000 in
set_option maxHeartbeats 200000 in
theorem fill_some0 (bb bf bs wr i m : Nat) (s : ByteArray) (buf : List UInt8) (ev : Value) (lb lr pr : Int) (w : World) (hst : St w bb bf bs s 0 wr i buf ev lb lr pr) (hw : wr < 4096) (hi : i < s.size)
    (hm : min (s.size - i) (4096 - wr) = m) :
    Calls Tryf.prog 59 #[.pointer (some ⟨bb, 0, none⟩)] w fun e w' => e = .returned (.tuple #[]) ∧ St w' bb bf bs s 0 (wr + m) (i + m) (over buf wr ((s.data.toList.drop i).take m)) ev lb lr (-1) ∧ Upd [bb, bf, bs] w w' := by
  have c0 : w.cell? ⟨bb, 0, none⟩ = some (.slice (some ⟨bf, 0, none⟩) 4096 4096) := Joins.cell_of_block hst.hb 0
  have c1 : w.cell? ⟨bb, 1, none⟩ = some (.iface 58 (.pointer (some ⟨bs, 0, none⟩))) := Joins.cell_of_block hst.hb 1
  have c2 : w.cell? ⟨bb, 2, none⟩ = some (.int .i64 0) := Joins.cell_of_block hst.hb 2
  have c3 : w.cell? ⟨bb, 3, none⟩ = some (.int .i64 wr) := Joins.cell_of_block hst.hb 3
  have hmt := method_read
  have b0 : (0 : Int) ≤ wr := by omega
  have b1 : (wr : Int) ≤ 4096 := by omega
  have b2 : ¬ wr = 4096 := by omega
  have b3 : ¬ 4096 = wr := by omega
  have bm : 0 < m := by omega
  have bm2 : m ≤ 4096 := by omega
  have HM := hid hm
  clear hm
  go_enter Tryf.func59, Tryf.ntmps59
  go_wp2
  go_quiet (fail)
  go_wp2
  refine wp_loop_rounds 1 ?_; rw [rounds_succ]
  go_wp2
  go_region_held3 (fun w' => w'.cell? ⟨bb, 0, none⟩ = some (.slice (some ⟨bf, 0, none⟩) 4096 4096) ∧ w'.cell? ⟨bb, 1, none⟩ = some (.iface 58 (.pointer (some ⟨bs, 0, none⟩))) ∧ w'.cell? ⟨bb, 3, none⟩ = some (.int .i64 wr)) (first | exact ⟨k0, k1, k3⟩ | go_keep) (first | (go_at_call 121; go_fit (read_some bs bf wr _ _ s i pr m buf _ hst.sz hi HM.out (by have := hst.len; omega) (by exact hst.hs) (by exact hst.hf) (by exact ne_sym hst.d3)); rintro e w1 ⟨rfl, hS1, hF1, HU1⟩; have HS1 := hid hS1; have HF1 := hid hF1; clear hS1 hF1; have HB1 := hid (HU1.heap (k := bb) (by exact hst.hb) (by simp [hst.d1, hst.d2])); have k0 := cell0 HB1; have k1 := cell1 HB1; have k3 := cell3 HB1))
  have g3 := free HB1 3
  clear c0 c1 c2 c3 hmt
  go_wp2
  have hl : ((s.data.toList.drop i).take m).length = m := by
    have := HM.out
    rw [List.length_take, List.length_drop, ← Lib.size_eq]; omega
  have hmm := HM.out
  refine bodyPost_ret (results_none rfl _ _ _) rfl ⟨rfl, ?_, ?_⟩
  · exact { hst with
      hb := Joins.block_setCell (i := 3) HB1.out _
      hf := (heap_set_other _ (by exact ne_sym hst.d1)).trans HF1.out
      hs := (heap_set_other _ (by exact ne_sym hst.d2)).trans HS1.out
      len := by rw [over_length _ _ _ (by rw [hl, hst.len]; omega)]; exact hst.len
      rw := Nat.zero_le _
      w4 := by omega
      is := by omega }
  · exact (((Upd.refl _ w).drewN _).trans (HU1.mono (by simp))).setCell (by simp) _
end Go.Proofs.Qxb6613956aFmt.W
