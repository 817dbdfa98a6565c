import Derived.Test.Qxb6613956aFmtRows
import Derived.Test.Qxb6613956aFmtBase
import Derived.Deep.QuietTactic
import Derived.BigQuiet
import Derived.Deep.RegionLaw
import Derived.Lib.IndexBytes
namespace Go.Proofs.Qxb6613956aFmt.W
open Go.RowKit

set_option maxHeartbeats 400000 in
theorem read_eof (bs n c : Nat) (p : Option Addr) (s : ByteArray) (i : Int) (ev : Value) (w : World)
    (h0 : w.cell? ⟨bs, 0, none⟩ = some (.string s)) (h1 : w.cell? ⟨bs, 1, none⟩ = some (.int .i64 i)) (hi : (s.size : Int) ≤ i)
    (he : w.cell? ⟨0, 0, none⟩ = some ev) :
    Calls Tryf.prog 121 #[.pointer (some ⟨bs, 0, none⟩), .slice p n c] w fun e w' => e = .returned (.tuple #[.int .i64 0, ev]) ∧ ∃ q, w' = w.drewN q := by
  go_enter Tryf.func121, Tryf.ntmps121
  go_wp2
  go_quiet (fail)
  go_wp2
  go_quiet (fail)
  go_wp2
  go_ret2
  exact ⟨rfl, _, drewN_drewN _ _ _⟩

theorem info5 : (Tryf.prog.info? 5).map (·.size) = some 1 := by kernel_rfl

set_option maxHeartbeats 400000 in
theorem read_some (bs bf o n c : Nat) (s : ByteArray) (i : Nat) (pr : Int) (m : Nat) (buf : List UInt8) (w : World)
    (hs : s.size ≤ 1048600) (hi : i < s.size) (hm : min (s.size - i) n = m) (hfit : o + n ≤ buf.length)
    (hS : w.heap[bs]? = some (.cells #[.string s, .int .i64 i, .int .i64 pr] 84 (0, 0)))
    (hB : w.heap[bf]? = some (.cells (rowB buf) 5 (0, 0))) (hne : bs ≠ bf) :
    Calls Tryf.prog 121 #[.pointer (some ⟨bs, 0, none⟩), .slice (some ⟨bf, o, none⟩) n c] w fun e w' => e = .returned (.tuple #[.int .i64 m, .nilIface]) ∧
      w'.heap[bs]? = some (.cells #[.string s, .int .i64 ((i + m : Nat) : Int), .int .i64 (-1)] 84 (0, 0)) ∧ w'.heap[bf]? = some (.cells (rowB (over buf o ((s.data.toList.drop i).take m))) 5 (0, 0)) ∧ Upd [bs, bf] w w' := by
  have h0 := Joins.cell_of_block hS 0
  have h1 := Joins.cell_of_block hS 1
  have h2 := Joins.cell_of_block hS 2
  have f1 := Joins.unfrozen_of_block hS 1
  have f2 := Joins.unfrozen_of_block hS 2
  simp at h0 h1 h2
  have HB : Hid (∀ (q : Nat) (v : Value), (((w.drewN q).setCell ⟨bs, 2, none⟩ v).drew).heap[bf]? = some (.cells (rowB buf) 5 (0, 0))) := fun q v => (heap_set_other (w := w.drewN q) v (by exact fun e => hne e.symm)).trans hB
  have HM : Hid (min (s.extract i s.size).size n = m) := by
    have : (s.extract i s.size).size = s.size - i := by simp
    show _ = _
    rw [this]; exact hm
  have hlt : ¬ (s.size : Int) ≤ i := by omega
  have hlt2 : (i : Int) ≤ s.size := by omega
  go_enter Tryf.func121, Tryf.ntmps121
  go_wp2
  go_quiet (fail)
  go_wp2
  go_region_law (refine step_copy_str rfl (.tmp 20) (.tmp 29) 43 9 rfl 5 Tryf.underlying43 info5 bf o n c (by simp [Act.eval, Act.put]) (s.extract i s.size) (by simp [Act.eval, Act.put]) m buf 5 (HB.out _ _) HM.out (by omega) ?_; intro w2 HB2 HU2)
  all_goals
    have hmm : m ≤ s.size - i := by omega
    have hS1 : (((w.drewN nq).setCell ⟨bs, 2, none⟩ (.int .i64 (-1))).drew).heap[bs]? = some (.cells #[.string s, .int .i64 i, .int .i64 (-1)] 84 (0, 0)) := Joins.block_setCell (w := w.drewN nq) (i := 2) hS (.int .i64 (-1))
    have hS2 := HU2.heap hS1 (by simpa using hne)
    have HU3 : Upd [bs, bf] w w2 := (((Upd.refl _ w).drewN nq).setCell (p := ⟨bs, 2, none⟩) (by simp) (.int .i64 (-1))).drew.trans (HU2.mono (by simp))
    clear HU2 hS1 HB h0 h1 h2 f1 f2 hS hB
    have g1 := Joins.cell_of_block hS2 1
    have f1 := Joins.unfrozen_of_block hS2 1
    simp at g1
    have HS2 : Hid (w2.heap[bs]? = some (.cells #[.string s, .int .i64 i, .int .i64 (-1)] 84 (0, 0))) := hS2
    clear hS2
    go_wp2
    go_ret2
    refine ⟨rfl, Joins.block_setCell (i := 1) HS2.out _, ?_, HU3.setCell (p := ⟨bs, 1, none⟩) (by simp) _⟩
    rw [heap_set_other _ (by exact fun e => hne e.symm), HB2.out, Lib.extract_to_end]
end Go.Proofs.Qxb6613956aFmt.W
