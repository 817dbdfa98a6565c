import Derived.Test.Qxb6613956aFmtFill2
namespace Go.Proofs.Qxb6613956aFmt.W
open Go.RowKit

/-- what is pending in the buffer -/
def pend (buf : List UInt8) (r wr : Nat) : List UInt8 := (buf.take wr).drop r
theorem pend_length (buf : List UInt8) (r wr : Nat) (h : wr ≤ buf.length) : (pend buf r wr).length = wr - r := by simp [pend]; omega
theorem pend_get (buf : List UInt8) (r wr j : Nat) (hj : j < (pend buf r wr).length) (h2 : r + j < buf.length) : (pend buf r wr)[j] = buf[r + j] := by simp [pend]

theorem srcB {w : World} {bf : Nat} {buf : List UInt8} (h : w.heap[bf]? = some (.cells (rowB buf) 5 (0, 0))) (j : Nat) (hj : j < buf.length) : w.cell? ⟨bf, j, none⟩ = some (.int .u8 (buf[j].toNat : Int)) := by
  rw [Joins.cell_of_block h]; exact rowB_get buf j hj

theorem lt0 {w : World} {a : Addr} {v : Value} (h : w.cell? a = some v) : a.block < w.heap.size := by
  rcases Nat.lt_or_ge a.block w.heap.size with h1 | h1
  · exact h1
  · simp [World.cell?, Array.getElem?_eq_none h1] at h

set_option maxRecDepth 100000 in
set_option maxHeartbeats 600000 in
theorem fill_eof1 (bb bf bs r wr n : Nat) (s : ByteArray) (buf : List UInt8) (ev : Value) (ea : Addr) (lb lr pr : Int) (w : World) (hst : St w bb bf bs s r wr s.size buf ev lb lr pr) (hr : 0 < r) (hn : r + n = wr)
    (he : w.cell? ⟨0, 0, none⟩ = some (errV ea)) (hz : 0 ≠ bb) (hzf : 0 ≠ bf) :
    Calls Tryf.prog 59 #[.pointer (some ⟨bb, 0, none⟩)] w fun e w' => e = .returned (.tuple #[]) ∧ St w' bb bf bs s 0 n s.size (over buf 0 (pend buf r wr)) (errV ea) lb lr pr ∧ Upd [bb, bf, bs] w w' := by
  have HB0 := hid hst.hb
  have c0 := cell0 HB0
  have c2 := cell2 HB0
  have c3 := cell3 HB0
  have g2 := hst.rw
  have g3 := hst.w4
  have hlen := hst.len
  have HL : Hid ((pend buf r wr).length = min (wr - r) 4096) := by show _ = _; rw [pend_length _ _ _ (by omega)]; omega
  obtain ⟨sp, hsp⟩ : ∃ sp : Option Addr, (if 4096 = r then some (⟨bf, 0, none⟩ : Addr) else some ⟨bf, r, none⟩) = sp := ⟨_, rfl⟩
  have HS : Hid (0 < (pend buf r wr).length → ∃ b2 o2, sp = some ⟨b2, o2, none⟩ ∧ ∀ j (h : j < (pend buf r wr).length), w.cell? ⟨b2, o2 + j, none⟩ = some (.int .u8 ((pend buf r wr)[j].toNat : Int))) := by
    intro hp
    have hl := pend_length buf r wr (by omega)
    refine ⟨bf, r, by rw [← hsp, if_neg (by omega)], fun j hj => ?_⟩
    rw [srcB hst.hf (r + j) (by omega), pend_get buf r wr j hj (by omega)]
  have hd : (wr : Int) - (r : Int) = (n : Int) := by omega
  have b5 : (n : Int) < 4096 := by omega
  have b6 : ¬ 4096 = n := by omega
  have b7 : (0 : Int) ≤ n := by omega
  have b8 : (n : Int) ≤ 4096 := by omega
  have HN := hid hn
  clear hn
  have hmt := method_read
  have b0 : (0 : Int) ≤ r := by omega
  have b1 : (r : Int) ≤ wr := by omega
  have b2 : (wr : Int) ≤ 4096 := by omega
  have b4 : (0 : Int) < r := by omega
  go_enter Tryf.func59, Tryf.ntmps59
  go_wp2
  go_region_held3 (fun w' => w'.cell? ⟨bb, 0, none⟩ = some (.slice (some ⟨bf, 0, none⟩) 4096 4096) ∧ w'.cell? ⟨bb, 2, none⟩ = some (.int .i64 r) ∧ w'.cell? ⟨bb, 3, none⟩ = some (.int .i64 wr)) (first | exact ⟨k0, k2, k3⟩ | go_keep) (first | (refine step_copy_bytes rfl (.tmp 13) (.tmp 26) 43 43 rfl 5 Tryf.underlying43 info5 bf 0 4096 4096 (by simp [Act.eval]) sp (wr - r) (4096 - r) (by simp [Act.eval]) (pend buf r wr) buf 5 (by exact hst.hf) HL.out (by rw [HL.out]; omega) (by exact HS.out) ?_; intro w2 HF2 HU2; have HB2 := hid (HU2.heap (k := bb) (by exact hst.hb) (by simp [hst.d1])); have k0 := cell0 HB2; have k2 := cell2 HB2; have k3 := cell3 HB2))
  have HX2 := hid (HU2.heap (k := bs) (by exact hst.hs) (by simp [ne_sym hst.d3]))
  have k1 := cell1 HB2
  have k4 := cell4 HB2
  have f2 := free HB2 2
  have f3 := free HB2 3
  have f4 := free HB2 4
  have s0 : w2.cell? ⟨bs, 0, none⟩ = some (.string s) := Joins.cell_of_block HX2.out 0
  have s1 : w2.cell? ⟨bs, 1, none⟩ = some (.int .i64 s.size) := Joins.cell_of_block HX2.out 1
  have he2 : w2.cell? ⟨0, 0, none⟩ = some (errV ea) := (HU2.cell (p := ⟨0, 0, none⟩) (by exact lt0 he) (by simp [hzf])).trans he
  clear c0 c2 c3 HS HL he
  go_wp2
  go_region
  go_wp2
  generalize hW : (w2.setCell ⟨bb, 3, none⟩ (.int .i64 n)).setCell ⟨bb, 2, none⟩ (.int .i64 0) = w3
  have HB3 : Hid (w3.heap[bb]? = some (.cells (brow bf bs 0 n ev lb lr) 110 (0, 0))) := by
    rw [← hW]; exact Joins.block_setCell (i := 2) (Joins.block_setCell (i := 3) HB2.out _) _
  have HU3 : Upd [bb] w2 w3 := by rw [← hW]; exact ((Upd.refl _ w2).setCell (by simp) _).setCell (by simp) _
  have HF3 := hid (HU3.heap HF2.out (by simp [ne_sym hst.d1]))
  have HX3 := hid (HU3.heap HX2.out (by simp [ne_sym hst.d2]))
  have he3 : w3.cell? ⟨0, 0, none⟩ = some (errV ea) := (HU3.cell (p := ⟨0, 0, none⟩) (by exact lt0 he2) (by simp [hz])).trans he2
  have HUU : Upd [bb, bf, bs] w w3 := (((Upd.refl _ w).drew.trans (HU2.mono (by simp))).trans (HU3.mono (by simp)))
  clear hW HU3 HU2 HB2 HF2 HX2 k0 k1 k2 k3 k4 f2 f3 f4 s0 s1 he2 HB0
  have c0 := cell0 HB3
  have c1 := cell1 HB3
  have c3 := cell3 HB3
  have c4 := cell4 HB3
  have f3 := free HB3 3
  have f4 := free HB3 4
  have s0 : w3.cell? ⟨bs, 0, none⟩ = some (.string s) := Joins.cell_of_block HX3.out 0
  have s1 : w3.cell? ⟨bs, 1, none⟩ = some (.int .i64 s.size) := Joins.cell_of_block HX3.out 1
  go_quiet (fail)
  go_wp2
  refine wp_loop_rounds 1 ?_; rw [rounds_succ]
  go_wp2
  go_region_held3 (fun w' => w'.cell? ⟨bb, 0, none⟩ = some (.slice (some ⟨bf, 0, none⟩) 4096 4096) ∧ w'.cell? ⟨bb, 1, none⟩ = some (.iface 58 (.pointer (some ⟨bs, 0, none⟩))) ∧ w'.cell? ⟨bb, 3, none⟩ = some (.int .i64 n)) (go_keep) (first | (go_at_call 121; go_fit (read_eof bs _ _ _ s s.size (errV ea) _ (by exact s0) (by exact s1) (by omega) (by exact he3)); rintro e w1 ⟨rfl, q, rfl⟩))
  go_wp2
  have hnn := HN.out
  have hll := pend_length buf r wr (by omega)
  refine bodyPost_ret (results_none rfl _ _ _) rfl ⟨rfl, ?_, ?_⟩
  · exact { hst with
      hb := Joins.block_setCell (i := 4) (Joins.block_setCell (i := 3) HB3.out _) _
      hf := (heap_set_other _ (by exact ne_sym hst.d1)).trans ((heap_set_other _ (by exact ne_sym hst.d1)).trans HF3.out)
      hs := (heap_set_other _ (by exact ne_sym hst.d2)).trans ((heap_set_other _ (by exact ne_sym hst.d2)).trans HX3.out)
      len := by rw [over_length _ _ _ (by omega)]; exact hst.len
      rw := Nat.zero_le _
      w4 := by omega }
  · exact ((HUU.drewN _).setCell (by simp) _).setCell (by simp) _

set_option maxRecDepth 100000 in
set_option maxHeartbeats 600000 in
theorem fill_some1 (bb bf bs r wr n i m : Nat) (s : ByteArray) (buf : List UInt8) (ev : Value) (lb lr pr : Int) (w : World) (hst : St w bb bf bs s r wr i buf ev lb lr pr) (hr : 0 < r) (hn : r + n = wr) (hi : i < s.size)
    (hm : min (s.size - i) (4096 - n) = m) :
    Calls Tryf.prog 59 #[.pointer (some ⟨bb, 0, none⟩)] w fun e w' => e = .returned (.tuple #[]) ∧ St w' bb bf bs s 0 (n + m) (i + m) (over (over buf 0 (pend buf r wr)) n ((s.data.toList.drop i).take m)) ev lb lr (-1) ∧ Upd [bb, bf, bs] w w' := by
  have HB0 := hid hst.hb
  have c0 := cell0 HB0
  have c2 := cell2 HB0
  have c3 := cell3 HB0
  have g2 := hst.rw
  have g3 := hst.w4
  have hlen := hst.len
  have HL : Hid ((pend buf r wr).length = min (wr - r) 4096) := by show _ = _; rw [pend_length _ _ _ (by omega)]; omega
  obtain ⟨sp, hsp⟩ : ∃ sp : Option Addr, (if 4096 = r then some (⟨bf, 0, none⟩ : Addr) else some ⟨bf, r, none⟩) = sp := ⟨_, rfl⟩
  have HS : Hid (0 < (pend buf r wr).length → ∃ b2 o2, sp = some ⟨b2, o2, none⟩ ∧ ∀ j (h : j < (pend buf r wr).length), w.cell? ⟨b2, o2 + j, none⟩ = some (.int .u8 ((pend buf r wr)[j].toNat : Int))) := by
    intro hp
    have hl := pend_length buf r wr (by omega)
    refine ⟨bf, r, by rw [← hsp, if_neg (by omega)], fun j hj => ?_⟩
    rw [srcB hst.hf (r + j) (by omega), pend_get buf r wr j hj (by omega)]
  have hd : (wr : Int) - (r : Int) = (n : Int) := by omega
  have b5 : (n : Int) < 4096 := by omega
  have b6 : ¬ 4096 = n := by omega
  have b7 : (0 : Int) ≤ n := by omega
  have b8 : (n : Int) ≤ 4096 := by omega
  have bm : 0 < m := by omega
  have bm2 : m ≤ 4096 := by omega
  have HN := hid hn
  have HM := hid hm
  clear hn hm
  have hmt := method_read
  have b0 : (0 : Int) ≤ r := by omega
  have b1 : (r : Int) ≤ wr := by omega
  have b2 : (wr : Int) ≤ 4096 := by omega
  have b4 : (0 : Int) < r := by omega
  go_enter Tryf.func59, Tryf.ntmps59
  go_wp2
  go_region_held3 (fun w' => w'.cell? ⟨bb, 0, none⟩ = some (.slice (some ⟨bf, 0, none⟩) 4096 4096) ∧ w'.cell? ⟨bb, 2, none⟩ = some (.int .i64 r) ∧ w'.cell? ⟨bb, 3, none⟩ = some (.int .i64 wr)) (first | exact ⟨k0, k2, k3⟩ | go_keep) (first | (refine step_copy_bytes rfl (.tmp 13) (.tmp 26) 43 43 rfl 5 Tryf.underlying43 info5 bf 0 4096 4096 (by simp [Act.eval]) sp (wr - r) (4096 - r) (by simp [Act.eval]) (pend buf r wr) buf 5 (by exact hst.hf) HL.out (by rw [HL.out]; omega) (by exact HS.out) ?_; intro w2 HF2 HU2; have HB2 := hid (HU2.heap (k := bb) (by exact hst.hb) (by simp [hst.d1])); have k0 := cell0 HB2; have k2 := cell2 HB2; have k3 := cell3 HB2))
  have HX2 := hid (HU2.heap (k := bs) (by exact hst.hs) (by simp [ne_sym hst.d3]))
  have f2 := free HB2 2
  have f3 := free HB2 3
  clear c0 c2 c3 HS HL
  go_wp2
  go_region
  go_wp2
  generalize hW : (w2.setCell ⟨bb, 3, none⟩ (.int .i64 n)).setCell ⟨bb, 2, none⟩ (.int .i64 0) = w3
  have HB3 : Hid (w3.heap[bb]? = some (.cells (brow bf bs 0 n ev lb lr) 110 (0, 0))) := by
    rw [← hW]; exact Joins.block_setCell (i := 2) (Joins.block_setCell (i := 3) HB2.out _) _
  have HU3 : Upd [bb] w2 w3 := by rw [← hW]; exact ((Upd.refl _ w2).setCell (by simp) _).setCell (by simp) _
  have HF3 := hid (HU3.heap HF2.out (by simp [ne_sym hst.d1]))
  have HX3 := hid (HU3.heap HX2.out (by simp [ne_sym hst.d2]))
  have HUU : Upd [bb, bf, bs] w w3 := (((Upd.refl _ w).drew.trans (HU2.mono (by simp))).trans (HU3.mono (by simp)))
  have hl1 : (over buf 0 (pend buf r wr)).length = 4096 := by rw [over_length _ _ _ (by rw [pend_length _ _ _ (by omega)]; omega)]; exact hst.len
  clear hW HU3 HU2 HB2 HF2 HX2 k0 k2 k3 f2 f3 HB0
  have c0 := cell0 HB3
  have c1 := cell1 HB3
  have c3 := cell3 HB3
  go_quiet (fail)
  go_wp2
  refine wp_loop_rounds 1 ?_; rw [rounds_succ]
  go_wp2
  go_region_held3 (fun w' => w'.cell? ⟨bb, 0, none⟩ = some (.slice (some ⟨bf, 0, none⟩) 4096 4096) ∧ w'.cell? ⟨bb, 1, none⟩ = some (.iface 58 (.pointer (some ⟨bs, 0, none⟩))) ∧ w'.cell? ⟨bb, 3, none⟩ = some (.int .i64 n)) (first | exact ⟨k0, k1, k3⟩ | go_keep) (first | (go_at_call 121; go_fit (read_some bs bf n _ _ s i pr m (over buf 0 (pend buf r wr)) _ hst.sz hi HM.out (by rw [hl1]; omega) (by exact HX3.out) (by exact HF3.out) (by exact ne_sym hst.d3)); rintro e w1 ⟨rfl, hS1, hF1, HU1⟩; have HS1 := hid hS1; have HF1 := hid hF1; clear hS1 hF1; have HB1 := hid (HU1.heap (k := bb) (by exact HB3.out) (by simp [hst.d1, hst.d2])); have k0 := cell0 HB1; have k1 := cell1 HB1; have k3 := cell3 HB1))
  have g3 := free HB1 3
  clear c0 c1 c3 hmt
  go_wp2
  have hmm := HM.out
  have hnn := HN.out
  have hl : ((s.data.toList.drop i).take m).length = m := by
    rw [List.length_take, List.length_drop, ← Lib.size_eq]; omega
  refine bodyPost_ret (results_none rfl _ _ _) rfl ⟨rfl, ?_, ?_⟩
  · exact { hst with
      hb := Joins.block_setCell (i := 3) HB1.out _
      hf := (heap_set_other _ (by exact ne_sym hst.d1)).trans HF1.out
      hs := (heap_set_other _ (by exact ne_sym hst.d2)).trans HS1.out
      len := by rw [over_length _ _ _ (by rw [hl, hl1]; omega)]; exact hl1
      rw := Nat.zero_le _
      w4 := by omega
      is := by omega }
  · exact (HUU.trans (((Upd.refl _ _).drewN _).trans (HU1.mono (by simp)))).setCell (by simp) _
end Go.Proofs.Qxb6613956aFmt.W
