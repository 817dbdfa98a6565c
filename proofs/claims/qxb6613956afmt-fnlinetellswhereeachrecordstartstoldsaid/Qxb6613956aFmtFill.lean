import Derived.Test.Qxb6613956aFmtRead
import Derived.Deep.RegionHeld3
namespace Go.Proofs.Qxb6613956aFmt.W
open Go.RowKit

/-- the cells of a bufio.Reader -/
def brow (bf bs : Nat) (r wr : Nat) (ev : Value) (lb lr : Int) : Array Value :=
  #[.slice (some ⟨bf, 0, none⟩) 4096 4096, .iface 58 (.pointer (some ⟨bs, 0, none⟩)), .int .i64 r, .int .i64 wr, ev, .int .i64 lb, .int .i64 lr]
/-- the cells of a strings.Reader -/
def srow (s : ByteArray) (i : Nat) (pr : Int) : Array Value := #[.string s, .int .i64 i, .int .i64 pr]

/-- an error of errors.New's make -/
abbrev errV (a : Addr) : Value := .iface 129 (.pointer (some a))

structure St (w : World) (bb bf bs : Nat) (s : ByteArray) (r wr i : Nat) (buf : List UInt8) (ev : Value) (lb lr pr : Int) : Prop where
  hb : w.heap[bb]? = some (.cells (brow bf bs r wr ev lb lr) 110 (0, 0))
  hf : w.heap[bf]? = some (.cells (rowB buf) 5 (0, 0))
  hs : w.heap[bs]? = some (.cells (srow s i pr) 84 (0, 0))
  len : buf.length = 4096
  rw : r ≤ wr
  w4 : wr ≤ 4096
  is : i ≤ s.size
  sz : s.size ≤ 1048600
  d1 : bb ≠ bf
  d2 : bb ≠ bs
  d3 : bf ≠ bs

theorem method_read (a : Addr) (w : World) : (method 272 58 (.pointer (some a)) "Read").run Tryf.prog w = .ok (121, .pointer (some a)) w := by kernel_rfl

theorem hid {p : Prop} (h : p) : Hid p := h
theorem cell0 {w : World} {bb bf bs r wr : Nat} {ev : Value} {lb lr : Int} (h : Hid (w.heap[bb]? = some (.cells (brow bf bs r wr ev lb lr) 110 (0, 0)))) : w.cell? ⟨bb, 0, none⟩ = some (.slice (some ⟨bf, 0, none⟩) 4096 4096) := Joins.cell_of_block h.out 0
theorem cell1 {w : World} {bb bf bs r wr : Nat} {ev : Value} {lb lr : Int} (h : Hid (w.heap[bb]? = some (.cells (brow bf bs r wr ev lb lr) 110 (0, 0)))) : w.cell? ⟨bb, 1, none⟩ = some (.iface 58 (.pointer (some ⟨bs, 0, none⟩))) := Joins.cell_of_block h.out 1
theorem cell2 {w : World} {bb bf bs r wr : Nat} {ev : Value} {lb lr : Int} (h : Hid (w.heap[bb]? = some (.cells (brow bf bs r wr ev lb lr) 110 (0, 0)))) : w.cell? ⟨bb, 2, none⟩ = some (.int .i64 r) := Joins.cell_of_block h.out 2
theorem cell3 {w : World} {bb bf bs r wr : Nat} {ev : Value} {lb lr : Int} (h : Hid (w.heap[bb]? = some (.cells (brow bf bs r wr ev lb lr) 110 (0, 0)))) : w.cell? ⟨bb, 3, none⟩ = some (.int .i64 wr) := Joins.cell_of_block h.out 3
theorem cell4 {w : World} {bb bf bs r wr : Nat} {ev : Value} {lb lr : Int} (h : Hid (w.heap[bb]? = some (.cells (brow bf bs r wr ev lb lr) 110 (0, 0)))) : w.cell? ⟨bb, 4, none⟩ = some ev := Joins.cell_of_block h.out 4
theorem cell5 {w : World} {bb bf bs r wr : Nat} {ev : Value} {lb lr : Int} (h : Hid (w.heap[bb]? = some (.cells (brow bf bs r wr ev lb lr) 110 (0, 0)))) : w.cell? ⟨bb, 5, none⟩ = some (.int .i64 lb) := Joins.cell_of_block h.out 5
theorem cell6 {w : World} {bb bf bs r wr : Nat} {ev : Value} {lb lr : Int} (h : Hid (w.heap[bb]? = some (.cells (brow bf bs r wr ev lb lr) 110 (0, 0)))) : w.cell? ⟨bb, 6, none⟩ = some (.int .i64 lr) := Joins.cell_of_block h.out 6
theorem free {w : World} {bb bf bs r wr : Nat} {ev : Value} {lb lr : Int} (h : Hid (w.heap[bb]? = some (.cells (brow bf bs r wr ev lb lr) 110 (0, 0)))) (i : Nat) : w.frozen? ⟨bb, i, none⟩ = false := Joins.unfrozen_of_block h.out i
theorem ne_sym {a b : Nat} (h : a ≠ b) : b ≠ a := fun e => h e.symm

set_option maxRecDepth 100000 in
set_option maxHeartbeats 400000 in
theorem fill_eof0 (bb bf bs wr : Nat) (s : ByteArray) (buf : List UInt8) (ev : Value) (ea : Addr) (lb lr pr : Int) (w : World) (hst : St w bb bf bs s 0 wr s.size buf ev lb lr pr) (hw : wr < 4096)
    (he : w.cell? ⟨0, 0, none⟩ = some (errV ea)) :
    Calls Tryf.prog 59 #[.pointer (some ⟨bb, 0, none⟩)] w fun e w' => e = .returned (.tuple #[]) ∧ St w' bb bf bs s 0 wr s.size buf (errV ea) lb lr pr ∧ Upd [bb, bf, bs] w w' := by
  have c0 : w.cell? ⟨bb, 0, none⟩ = some (.slice (some ⟨bf, 0, none⟩) 4096 4096) := Joins.cell_of_block hst.hb 0
  have c1 : w.cell? ⟨bb, 1, none⟩ = some (.iface 58 (.pointer (some ⟨bs, 0, none⟩))) := Joins.cell_of_block hst.hb 1
  have c2 : w.cell? ⟨bb, 2, none⟩ = some (.int .i64 0) := Joins.cell_of_block hst.hb 2
  have c3 : w.cell? ⟨bb, 3, none⟩ = some (.int .i64 wr) := Joins.cell_of_block hst.hb 3
  have c4 : w.cell? ⟨bb, 4, none⟩ = some ev := Joins.cell_of_block hst.hb 4
  have f3 := Joins.unfrozen_of_block hst.hb 3
  have f4 := Joins.unfrozen_of_block hst.hb 4
  have s0 : w.cell? ⟨bs, 0, none⟩ = some (.string s) := Joins.cell_of_block hst.hs 0
  have s1 : w.cell? ⟨bs, 1, none⟩ = some (.int .i64 s.size) := Joins.cell_of_block hst.hs 1
  have hmt := method_read
  have b0 : (0 : Int) ≤ wr := by omega
  have b1 : (wr : Int) ≤ 4096 := by omega
  have b2 : ¬ wr = 4096 := by omega
  go_enter Tryf.func59, Tryf.ntmps59
  go_wp2
  go_quiet (fail)
  go_wp2
  refine wp_loop_rounds 1 ?_; rw [rounds_succ]
  go_wp2
  go_region_held3 (fun w' => w'.cell? ⟨bb, 0, none⟩ = some (.slice (some ⟨bf, 0, none⟩) 4096 4096) ∧ w'.cell? ⟨bb, 1, none⟩ = some (.iface 58 (.pointer (some ⟨bs, 0, none⟩))) ∧ w'.cell? ⟨bb, 3, none⟩ = some (.int .i64 wr)) (go_keep) (first | (go_at_call 121; refine (read_eof bs _ _ _ s s.size (errV ea) _ (by exact s0) (by exact s1) (by omega) (by exact he)).mono ?_; rintro e w1 ⟨rfl, q, rfl⟩))
  go_wp2
  refine bodyPost_ret (results_none rfl _ _ _) rfl ⟨rfl, ?_, ?_⟩
  · exact { hst with
      hb := Joins.block_setCell (i := 4) (Joins.block_setCell (i := 3) hst.hb _) _
      hf := (heap_set_other _ (by exact ne_sym hst.d1)).trans ((heap_set_other _ (by exact ne_sym hst.d1)).trans hst.hf)
      hs := (heap_set_other _ (by exact ne_sym hst.d2)).trans ((heap_set_other _ (by exact ne_sym hst.d2)).trans hst.hs) }
  · exact (((Upd.refl _ w).drewN _).setCell (by simp) _).setCell (by simp) _

end Go.Proofs.Qxb6613956aFmt.W
