import Derived.Test.Qxb6613956aFmtLong
import Derived.Deep.OwnRows
namespace Go.Proofs.Qxb6613956aFmt.W
open Go.RowKit

theorem ta_no (a : Addr) (w : World) : (Instr.typeAssert (.iface 58 (.pointer (some a))) 81 67 true).run Tryf.prog w = .ok (.tuple #[.pointer none, .bool false]) w := by kernel_rfl

/-- a buffer as make lays it -/
def zbuf (n : Nat) : List UInt8 := List.replicate n 0

theorem made_zbuf (n : Nat) : madeCells #[Value.int .u8 0] n = rowB (zbuf n) := by
  apply Array.ext'
  unfold madeCells rowB zbuf Lib.byteCells
  apply List.ext_getElem
  · simp
  · intro i h1 h2; simp [Nat.mod_one]

theorem mk_buf (w : World) : (Instr.makeSlice 43 (.int .i64 (max 4096 16)) (.int .i64 (max 4096 16))).run Tryf.prog w = .ok (.slice (some ⟨w.heap.size, 0, none⟩) 4096 4096) (w.alloc (.cells (rowB (zbuf 4096)) 5)) := by
  have := run_make_row' (P := Tryf.prog) 43 5 (.int .u8 0) 1 Tryf.underlying43 info5b rfl .i64 .i64 4096 (by omega) (by omega) w
  rw [made_zbuf] at this
  exact this

theorem al_new (w : World) (o : Obj) (k : Nat) (h : k = w.heap.size) : (w.alloc o).heap[k]? = some o := by subst h; show (w.heap.push o)[w.heap.size]? = _; rw [Array.getElem?_push, if_pos rfl]
theorem al_old (w : World) (o : Obj) (k : Nat) (h : k < w.heap.size) : (w.alloc o).heap[k]? = w.heap[k]? := Below.heap_alloc w o k h

theorem zbuf_len (n : Nat) : (zbuf n).length = n := List.length_replicate
theorem pend_zero (buf : List UInt8) : pend buf 0 0 = [] := by simp [pend]

theorem new_state (w : World) (s : ByteArray) (hs : s.size ≤ 1048600) (n1 n2 n3 : Nat) (e1 : n1 = w.heap.size + 1) (e2 : n2 = w.heap.size + 1 + 1) (e3 : n3 = w.heap.size + 1 + 1 + 1) :
    CR ((((w.alloc (.cells (srow s 0 (-1)) 84 (0, 0))).alloc (.cells (brow n2 w.heap.size 0 0 .nilIface (-1) (-1)) 110 (0, 0))).alloc (.cells (rowB (zbuf 4096)) 5 (0, 0))).alloc (.cells (crow n1 0 0 0 (.slice none 0 0) (.slice none 0 0) (.slice none 0 0) (.slice none 0 0)) 69 (0, 0)))
      w.heap.size n3 n1 n2 w.heap.size s s.data.toList 0 0 0 (.slice none 0 0) (.slice none 0 0) (.slice none 0 0) (.slice none 0 0) := by
  subst e1 e2 e3
  refine { hc := al_new _ _ _ (by simp), rs := ⟨0, 0, 0, zbuf 4096, -1, -1, -1, { hb := ?_, hf := ?_, hs := ?_, len := zbuf_len 4096, rw := Nat.le_refl _, w4 := by omega, is := Nat.zero_le _, sz := hs, d1 := by omega, d2 := by omega, d3 := by omega }, by simp [pend_zero]⟩,
           lg := ⟨0, [], World.ownsRow_nil _ _ _ _⟩, dl := fun k hk => by simp [vb] at hk, Bc := by omega, Bb := by omega, Bf := by omega, Bs := Nat.le_refl _, cb := by omega, cf := by omega, cs := by omega }
  · rw [al_old _ _ _ (by simp), al_old _ _ _ (by simp), al_new _ _ _ (by simp)]
  · rw [al_old _ _ _ (by simp), al_new _ _ _ (by simp)]
  · rw [al_old _ _ _ (by simp; omega), al_old _ _ _ (by simp; omega), al_old _ _ _ (by simp), al_new _ _ _ (by simp)]

set_option maxRecDepth 100000 in
set_option maxHeartbeats 400000 in
theorem newReader_any (s : ByteArray) (w : World) (hs : s.size ≤ 1048600) :
    Calls Tryf.prog 12 #[.string s] w fun e w' => ∃ bc bb bf bs, e = .returned (.pointer (some ⟨bc, 0, none⟩)) ∧ CR w' w.heap.size bc bb bf bs s s.data.toList 0 0 0 (.slice none 0 0) (.slice none 0 0) (.slice none 0 0) (.slice none 0 0) ∧ Upd [] w w' := by
  have hta := ta_no
  have hmk := mk_buf
  go_enter Tryf.func12, Tryf.ntmps12
  go_wp2
  go_end0
  go_wp2
  go_ret
  exact ⟨_, _, _, _, rfl, new_state w s hs _ _ _ rfl rfl rfl, ((((Upd.refl _ w).alloc _).alloc _).alloc _).alloc _⟩
end Go.Proofs.Qxb6613956aFmt.W
