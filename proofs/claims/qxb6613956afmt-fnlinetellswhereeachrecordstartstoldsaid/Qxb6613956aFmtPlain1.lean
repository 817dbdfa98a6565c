import Derived.Test.Qxb6613956aFmtNew
import Derived.Laws.BytesArg
namespace Go.Proofs.Qxb6613956aFmt.W
open Go.RowKit

/-- readLine, whole, where text is left -/
theorem readLine_any (B bc bb bf bs : Nat) (s : ByteArray) (T : List UInt8) (ln st fd : Int) (long text ends rec : Value) (ea fa : Addr) (w : World) (h : CR w B bc bb bf bs s T ln st fd long text ends rec) (he : Errs w B ea fa)
    (hT : T ≠ []) (hl0 : 0 ≤ ln) (hl1 : ln ≤ 4194304) :
    Calls Tryf.prog 34 #[.pointer (some ⟨bc, 0, none⟩)] w fun e w' => ∃ v long' b, e = .returned (.tuple #[v, .nilIface]) ∧ LineIn w' b v (fl T) ∧ CR w' B bc bb bf bs s (T.drop (fl T).length) (ln + 1) st fd long' text ends rec ∧ Upd ([bc, bb, bf, bs] ++ vb long) w w' ∧ (b = bf ∨ b ∈ vb long') ∧ (∀ k, k ∈ vb long' → k ∈ vb long ∨ w.heap.size ≤ k) := by
  by_cases hc : (10 : UInt8) ∉ T.take 4096 ∧ 4096 ≤ T.length
  · refine (readLine_long B bc bb bf bs s T ln st fd long text ends rec ea fa w h he hl0 hl1 hc.1 hc.2).mono ?_
    rintro e w' ⟨v, g, cap, rfl, rfl, h2, h3, h4, h5⟩
    exact ⟨_, _, g, rfl, h2, h3, h4, .inr (by simp [vb]), fun k hk => by simp [vb] at hk; subst hk; exact h5⟩
  · refine (readLine_short B bc bb bf bs s T ln st fd long text ends rec ea fa w h he hT hl0 hl1 hc).mono ?_
    rintro e w' ⟨v, rfl, h2, h3, h4⟩
    exact ⟨v, long, bf, rfl, h2, h3, h4.mono (fun k hk => by simp at hk ⊢; omega), .inl rfl, fun k hk => .inl hk⟩

theorem CR.sub {w : World} {B bc bb bf bs : Nat} {s : ByteArray} {T : List UInt8} {ln st fd : Int} {long text ends rec : Value} (h : CR w B bc bb bf bs s T ln st fd long text ends rec) : ∀ k, k ∈ [bc, bb, bf, bs] ++ vb long → B ≤ k := by
  intro k hk
  obtain ⟨n, xs, ho⟩ := h.lg
  have h1 := h.Bc
  have h2 := h.Bb
  have h3 := h.Bf
  have h4 := h.Bs
  simp at hk
  rcases hk with rfl | rfl | rfl | rfl | hk
  · exact h1
  · exact h2
  · exact h3
  · exact h4
  · exact (owns_lt ho k hk).2

set_option maxRecDepth 100000 in
set_option maxHeartbeats 400000 in
theorem plain_some (B bc bb bf bs : Nat) (s : ByteArray) (T : List UInt8) (ln st fd : Int) (long text ends rec : Value) (ea fa : Addr) (w : World) (h : CR w B bc bb bf bs s T ln st fd long text ends rec) (he : Errs w B ea fa)
    (hT : T ≠ []) (hl0 : 0 ≤ ln) (hl1 : ln ≤ 4194304) :
    Calls Tryf.prog 23 #[.pointer (some ⟨bc, 0, none⟩)] w fun e w' => ∃ v long' b, e = .returned (.tuple #[v, .bool false, .bool false]) ∧ LineIn w' b v (fl T) ∧ CR w' B bc bb bf bs s (T.drop (fl T).length) (ln + 1) st fd long' text ends rec ∧ Upd ([bc, bb, bf, bs] ++ vb long) w w' := by
  go_enter Tryf.func23, Tryf.ntmps23
  go_wp2_with fail
  go_fit (readLine_any B bc bb bf bs s T ln st fd long text ends rec ea fa _ h he hT hl0 hl1)
  rintro e w1 ⟨v, long', b, rfl, h1, h2, h3, _⟩
  have he1 := he.upd h3 h.sub
  have e1 := he1.e
  have q4 := fun a n => eql_nil a (w1.drewN n)
  go_wp2
  go_quiet (fail)
  go_wp2
  go_ret3
  exact ⟨_, long', b, rfl, h1.upd rfl, h2.drewN _, h3.drewN _⟩

set_option maxRecDepth 100000 in
set_option maxHeartbeats 400000 in
theorem plain_nil (B bc bb bf bs : Nat) (s : ByteArray) (ln st fd : Int) (long text ends rec : Value) (ea fa : Addr) (w : World) (h : CR w B bc bb bf bs s [] ln st fd long text ends rec) (he : Errs w B ea fa) :
    Calls Tryf.prog 23 #[.pointer (some ⟨bc, 0, none⟩)] w fun e w' => e = .returned (.tuple #[.slice none 0 0, .bool true, .bool true]) ∧ CR w' B bc bb bf bs s [] ln st fd long text ends rec ∧ Upd [bb, bf, bs] w w' := by
  have hBb := h.Bb
  have hBf := h.Bf
  have hBs := h.Bs
  go_enter Tryf.func23, Tryf.ntmps23
  go_wp2_with fail
  go_fit (readLine_nil B bc bb bf bs s ln st fd long text ends rec ea fa _ h he)
  rintro e w1 ⟨rfl, h2, h3⟩
  have he1 := he.upd h3 (by simp; omega)
  have e1 := he1.e
  have q4 := fun n => eql_same ea (w1.drewN n)
  go_wp2
  go_quiet (fail)
  go_wp2
  go_ret3
  exact ⟨rfl, h2.drewN _, h3.drewN _⟩
end Go.Proofs.Qxb6613956aFmt.W
