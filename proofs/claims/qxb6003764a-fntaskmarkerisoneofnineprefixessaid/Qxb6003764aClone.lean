import Derived.Test.Qxb6003764aRows
import Derived.Test.Qxb6003764aShelf
import Derived.WalkKit
import Derived.ProofKit
import Derived.WalkSpells
import Derived.Lib.SmallJoins
import Derived.Deep.QuietTactic
import Derived.BigQuiet
import Derived.Deep.DeepFit
import Derived.Deep.LoopGhost
import Derived.OwnWalk
import Derived.Below
import Derived.Laws.BytesArg
namespace Go.Proofs.Qxb6003764a.T
open Go.RowKit

theorem hid {p : Prop} (h : p) : Hid p := h

theorem info5 : (Try.prog.info? 5).map (fun i => (i.zero, i.size, i.bytes)) = some (some (.int .u8 0), 1, 1) := by kernel_rfl

theorem ret_b {a b : Bool} (h : a = b) : Ending.returned (.bool a) = .returned (.bool b) := by rw [h]
theorem nil_eql (w : World) : (binOp .eql 27 (.slice none 0 0) (.slice none 0 0)).run Try.prog w = .ok (.bool true) w := by kernel_rfl
theorem nil_neq (x : Addr) (n c : Nat) (w : World) : (binOp .eql 27 (.slice (some x) n c) (.slice none 0 0)).run Try.prog w = .ok (.bool false) w := by kernel_rfl

/-- a slice of n bytes z: nil, or a row that can be read -/
def BR (w : World) (v : Value) (n : Nat) (z : Nat → Int) : Prop :=
  (v = .slice none 0 0 ∧ n = 0) ∨ ∃ x cap, v = .slice (some x) n cap ∧ n ≤ cap ∧ cap ≤ maxLen ∧ ∀ i, i < n → w.cell? (x.add i) = some (.int .u8 (z i))

/-- as BR, the row being one that a clone has laid -/
def BR2 (w : World) (v : Value) (n : Nat) (z : Nat → Int) : Prop :=
  (v = .slice none 0 0 ∧ n = 0) ∨ ∃ g cap, v = .slice (some ⟨g, 0, none⟩) n cap ∧ n ≤ cap ∧ cap ≤ maxLen ∧ ∀ i, i < n → w.cell? ⟨g, i, none⟩ = some (.int .u8 (z i))

theorem add_row (g j : Nat) : (⟨g, 0, none⟩ : Addr).add j = ⟨g, j, none⟩ := by simp [Addr.add, eq_comm]
theorem BR2.br {w : World} {v : Value} {n : Nat} {z : Nat → Int} (h : BR2 w v n z) : BR w v n z := by
  rcases h with h | ⟨g, cap, h1, h2, h3, h4⟩
  · exact .inl h
  · exact .inr ⟨_, cap, h1, h2, h3, fun i hi => by rw [add_row]; exact h4 i hi⟩
theorem BR2.below {w w' : World} {v : Value} {n : Nat} {z : Nat → Int} (h : BR2 w v n z) (hb : Below w.heap.size w w') : BR2 w' v n z := by
  rcases h with h | ⟨g, cap, h1, h2, h3, h4⟩
  · exact .inl h
  · exact .inr ⟨g, cap, h1, h2, h3, fun i hi => (hb.cell (World.block_lt_of_cell? _ _ (h4 i hi))).trans (h4 i hi)⟩

theorem lt_of_cell {w : World} {p : Addr} {v : Value} (h : w.cell? p = some v) : p.block < w.heap.size := by
  unfold World.cell? at h
  cases e : w.heap[p.block]? with
  | none => simp [e] at h
  | some o => exact (Array.getElem?_eq_some_iff.1 e).1

set_option maxHeartbeats 400000 in
theorem bytes11 (a : Option Addr) (n c : Nat) (w : World) :
    Calls Try.prog 11 #[.slice a n c] w fun e w' => e = .returned (.bool (decide (n ≤ 1048576))) ∧ w' = w := by
  by_cases h1 : n ≤ 1048576
  · have h2 : (n : Int) ≤ 1048576 := by omega
    go_enter Try.func11, Try.ntmps11
    go_wp2
    go_ret
    exact ⟨ret_b (decide_eq_true h1).symm, rfl⟩
  · have h2 : (1048576 : Int) < n := by omega
    go_enter Try.func11, Try.ntmps11
    go_wp2
    go_ret
    exact ⟨ret_b (decide_eq_false h1).symm, rfl⟩

/-- the loop of zzCloneBytes -/
structure CL (w wr : World) (n : Nat) (z : Nat → Int) (i : Nat) : Prop where
  hb : ∃ cur : Array Value, wr.heap[w.heap.size]? = some (.cells cur 5 (0, 0)) ∧ cur.size = n ∧ ∀ j, j < i → cur[j]? = some (.int .u8 (z j))
  be : Below w.heap.size w wr

theorem CL.step {w wr : World} {n : Nat} {z : Nat → Int} {i : Nat} (h : CL w wr n z i) (hi : i < n) : CL w (wr.setCell ⟨w.heap.size, i, none⟩ (.int .u8 (z i))) n z (i + 1) := by
  obtain ⟨cur, h1, h2, h3⟩ := h.hb
  refine { hb := ⟨_, Joins.block_setCell h1 _, by simp [h2], fun j hj => ?_⟩, be := h.be.setCell (Nat.le_refl _) _ }
  by_cases e : j = i
  · subst e; simp [h2, hi]
  · rw [Array.getElem?_setIfInBounds_ne (by omega)]; exact h3 j (by omega)

theorem CL.cell {w wr : World} {n : Nat} {z : Nat → Int} {i : Nat} (h : CL w wr n z i) (j : Nat) (hj : j < n) : ∃ u, wr.cell? ⟨w.heap.size, j, none⟩ = some u := by
  obtain ⟨cur, h1, h2, h3⟩ := h.hb
  rw [Joins.cell_of_block h1]
  exact ⟨cur[j]'(by omega), Array.getElem?_eq_getElem _⟩
theorem CL.frozen {w wr : World} {n : Nat} {z : Nat → Int} {i : Nat} (h : CL w wr n z i) (j : Nat) : wr.frozen? ⟨w.heap.size, j, none⟩ = false := by
  obtain ⟨cur, h1, h2, h3⟩ := h.hb
  exact Joins.unfrozen_of_block h1 j

set_option maxRecDepth 100000 in
set_option maxHeartbeats 400000 in
theorem clone_any (w : World) (v : Value) (n : Nat) (z : Nat → Int) (h : BR w v n z) (hn : n ≤ 1048576) :
    Calls Try.prog 12 #[v] w fun e w' => ∃ v', e = .returned v' ∧ BR2 w' v' n z ∧ Below w.heap.size w w' := by
  obtain ⟨i0, hi, hz0, hz1, hz2⟩ := info_parts info5
  rcases h with ⟨rfl, rfl⟩ | ⟨x, cap, rfl, hc1, hc2, hc⟩
  · have hq := nil_eql
    go_enter Try.func12, Try.ntmps12
    go_wp2
    go_ret
    exact ⟨_, rfl, .inl ⟨rfl, rfl⟩, Below.refl _ _⟩
  · have hnI : (n : Int) ≤ 1048576 := by omega
    have HC := hid hc
    clear hc
    have hq := nil_neq x n cap
    go_enter Try.func12, Try.ntmps12
    go_wp2_with (first | (at_make; refine wpList_make_full _ rfl _ _ 27 rfl w.heap.size 5 i0 (.int .u8 0) 1 Try.underlying27 hi hz0 hz1 _ _ _ _ n rfl rfl rfl rfl (by rw [hz2]; omega) (by unfold maxLen; omega) (Nat.le_refl _) ?_; intro w1 ho1 hg1))
    have h0 : CL w w1 n z 0 := by
      refine { hb := ?_, be := (Below.refl _ w).grown hg1 (Nat.le_refl _) (fun k hk => by cases hk) }
      rcases ho1.2 with ⟨h, _⟩ | ⟨g, cap', cur, h, h5, h6, h7, h8, h9, h10⟩
      · cases h
      · injection h with h1 h2 h3
        injection h1 with h1
        injection h1 with h1
        subst h1 h3
        exact ⟨cur, h6, by omega, fun j hj => by omega⟩
    clear ho1 hg1
    go_loopg [4] (n + 1) (fun k t4 wr => ∃ i : Nat, t4 = .int .i64 i ∧ i ≤ n ∧ n - i < k ∧ CL w wr n z i)
    case atStart => exact ⟨0, rfl, by omega, by omega, h0⟩
    case round =>
      obtain ⟨i, rfl, hi', hk, hcl⟩ := hrel
      by_cases hlt : i < n
      · have hltI : (i : Int) < n := by omega
        have d1 : wr.cell? (x.add i) = some (.int .u8 (z i)) := (hcl.be.cell (by have := lt_of_cell (HC.out i hlt); exact this)).trans (HC.out i hlt)
        obtain ⟨u, d2⟩ := hcl.cell i hlt
        have d3 := hcl.frozen i
        have HCL := hid hcl
        clear hcl
        go_wp2
        go_roundg (gk - 1)
        case measure => omega
        case rel => exact ⟨i + 1, by simp, by omega, by omega, HCL.out.step hlt⟩
      · go_wp2
        go_ret
        refine ⟨_, rfl, .inr ⟨w.heap.size, n, rfl, Nat.le_refl _, by unfold maxLen; omega, fun j hj => ?_⟩, hcl.be⟩
        obtain ⟨cur, h1, h2, h3⟩ := hcl.hb
        rw [Joins.cell_of_block h1]
        exact h3 j (by omega)
end Go.Proofs.Qxb6003764a.T
