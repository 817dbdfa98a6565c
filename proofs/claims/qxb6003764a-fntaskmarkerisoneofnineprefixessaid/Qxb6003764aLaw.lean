import Derived.Test.Qxb6003764aMain
namespace Go.Proofs.Qxb6003764a.T
open Go.RowKit

theorem BR2.drewN {w : World} {v : Value} {n : Nat} {z : Nat → Int} (h : BR2 w v n z) (q : Nat) : BR2 (w.drewN q) v n z := h

theorem below_drewN (B : Nat) (w : World) (q : Nat) : Below B w (w.drewN q) := ⟨rfl, rfl, rfl, Nat.le_refl _, fun _ _ => rfl⟩

def mk : Nat → Int
  | 0 => 45
  | 1 => 42
  | _ => 43
def bx : Nat → Int
  | 0 => 32
  | 1 => 120
  | _ => 88
theorem mk_at (i : Nat) (h3 : i < 3) (h : i < (⟨#[45, 42, 43]⟩ : ByteArray).size) : ((((⟨#[45, 42, 43]⟩ : ByteArray)[i]'h).toNat : Nat) : Int) = mk i := by
  match i, h3 with
  | 0, _ => rfl
  | 1, _ => rfl
  | 2, _ => rfl
theorem bx_at (i : Nat) (h3 : i < 3) (h : i < (⟨#[32, 120, 88]⟩ : ByteArray).size) : ((((⟨#[32, 120, 88]⟩ : ByteArray)[i]'h).toNat : Nat) : Int) = bx i := by
  match i, h3 with
  | 0, _ => rfl
  | 1, _ => rfl
  | 2, _ => rfl
theorem out_step (p : Int → Int → Bool) (i : Nat) (h3 : i < 3) : out p (i + 1) = inn p (mk i) (out p i) 3 := by
  match i, h3 with
  | 0, _ => rfl
  | 1, _ => rfl
  | 2, _ => rfl
theorem inn_step (p : Int → Int → Bool) (m : Int) (s : Bool × Bool) (j : Nat) (h3 : j < 3) : inn p m s (j + 1) = upd p m (bx j) (inn p m s j) := by
  match j, h3 with
  | 0, _ => rfl
  | 1, _ => rfl
  | 2, _ => rfl
theorem inn_yes (p : Int → Int → Bool) (m : Int) (s : Bool × Bool) (j : Nat) (h3 : j < 3) (h : p m (bx j) = true) : inn p m s (j + 1) = (true, bx j != 32) := by
  rw [inn_step p m s j h3, upd, h]; rfl
theorem inn_no (p : Int → Int → Bool) (m : Int) (s : Bool × Bool) (j : Nat) (h3 : j < 3) (h : p m (bx j) = false) : inn p m s (j + 1) = inn p m s j := by
  rw [inn_step p m s j h3, upd, h]; rfl

theorem bytes11_yes (a : Option Addr) (n c : Nat) (w : World) (h : n ≤ 1048576) :
    Calls Try.prog 11 #[.slice a n c] w fun e w' => e = .returned (.bool true) ∧ w' = w := by
  refine (bytes11 a n c w).mono ?_
  rintro e w' ⟨rfl, rfl⟩
  exact ⟨ret_b (decide_eq_true h), rfl⟩
theorem bytes11_no (a : Option Addr) (n c : Nat) (w : World) (h : ¬ n ≤ 1048576) :
    Calls Try.prog 11 #[.slice a n c] w fun e w' => e = .returned (.bool false) ∧ w' = w := by
  refine (bytes11 a n c w).mono ?_
  rintro e w' ⟨rfl, rfl⟩
  exact ⟨ret_b (decide_eq_false h), rfl⟩

set_option maxRecDepth 100000 in
set_option maxHeartbeats 2000000 in
theorem law_any (w : World) (a : Option Addr) (n c : Nat) (z : Nat → Int) (h : BR w (.slice a n c) n z) (hz : ∀ i, i < n → 0 ≤ z i ∧ z i < 256) :
    Calls Try.prog 4 #[.slice a n c] w fun e w' => e = .returned (.bool true) ∧ Below w.heap.size w w' := by
  by_cases hn : n ≤ 1048576
  · have hnI : (n : Int) ≤ 1048576 := by omega
    have hq1 := bytes11_yes a n c w hn
    have hq2 := clone_any w _ n z h hn
    have HH := hid h
    have HZ := hid hz
    clear h hz
    go_enter Try.func4, Try.ntmps4
    go_wp2_with fail
    go_fit hq1
    rintro e w' ⟨rfl, rfl⟩
    clear hq1
    go_wp2_with fail
    go_fit hq2
    rintro e w1 ⟨v1, rfl, hb1, hu1⟩
    clear hq2
    have hq3 := clone_any w1 v1 n z hb1.br hn
    have HB1 := hid hb1
    clear hb1
    go_wp2_with fail
    go_fit hq3
    rintro e w2 ⟨v2, rfl, hb2, hu2⟩
    clear hq3
    have hq4 := zztask_any w2 v2 n z hb2 HZ.out
    clear hb2
    go_wp2_with fail
    go_fit hq4
    rintro e w3 ⟨rfl, m, rfl⟩
    clear hq4
    have hbl : BR2 w2 v1 n z := HB1.out.below hu2
    have HBL := hid hbl
    clear hbl
    have hT := out_is n z
    generalize hp : has n z = p at hT
    generalize isT n z = bt at hT ⊢
    generalize isD n z = bd at hT ⊢
    have HT := hid hT
    have HP := hid hp
    clear hT hp
    have z1 : (⟨#[45, 42, 43]⟩ : ByteArray).size = 3 := rfl
    have z2 : (⟨#[32, 120, 88]⟩ : ByteArray).size = 3 := rfl
    go_wp2_with fail
    go_loopg [5, 6, 7] 4 (fun k t5 t6 t7 wr => ∃ i q : Nat, t5 = .bool (out p i).1 ∧ t6 = .bool (out p i).2 ∧ t7 = .int .i64 i ∧ i ≤ 3 ∧ 3 - i < k ∧ Hid (wr = w2.drewN q))
    case atStart => exact ⟨0, m, rfl, rfl, rfl, by omega, by omega, rfl⟩
    case round =>
      obtain ⟨i, q, rfl, rfl, rfl, hi, hk, hwr⟩ := hrel
      obtain ⟨k0, hk0⟩ : ∃ k0, k0 = gk := ⟨_, rfl⟩
      by_cases hlt : i < 3
      · have hltI : (i : Int) < 3 := by omega
        go_wp2_with fail
        generalize hs0 : out p i = s0
        have HS0 := hid hs0
        clear hs0
        go_loopg [5, 6, 8] 4 (fun k t5 t6 t8 wr => ∃ j q : Nat, t5 = .bool (inn p (mk i) s0 j).1 ∧ t6 = .bool (inn p (mk i) s0 j).2 ∧ t8 = .int .i64 j ∧ j ≤ 3 ∧ 3 - j < k ∧ Hid (wr = w2.drewN q))
        case atStart => exact ⟨0, q, rfl, rfl, rfl, by omega, by omega, hwr⟩
        case round =>
          obtain ⟨j, q, rfl, rfl, rfl, hj, hk2, hwr2⟩ := hrel
          by_cases hltj : j < 3
          · have hltjI : (j : Int) < 3 := by omega
            have m1 := mk_at i hlt (by rw [z1]; exact hlt)
            have m2 := bx_at j hltj (by rw [z2]; exact hltj)
            have hbr : BR2 wr v1 n z := by rw [hwr2.out]; exact HBL.out
            have HBR := hid hbr
            clear hbr
            generalize hpv : p (mk i) (bx j) = pv
            have hhv : has n z (mk i) (bx j) = pv := by rw [HP.out]; exact hpv
            have HPV := hid hpv
            clear hpv
            go_wp2_with fail
            have hq5 : ∀ x, Calls Try.prog 14 #[v1, .int .u8 (mk i), .int .u8 (bx j)] (wr.drewN x) fun e w'' => e = .returned (.bool pv) ∧ w'' = wr.drewN x := fun x => by
              rw [← hhv]; exact has_any (wr.drewN x) v1 n z (mk i) (bx j) HBR.out
            clear hhv
            go_quiet ((go_at_call 14; exact Calls.quiet_of_same (hq5 _)))
            clear hq5
            cases pv
            · go_wp2_with fail
              go_roundg (gk - 1)
              case measure => omega
              case rel => exact ⟨j + 1, _, by rw [inn_no p _ s0 j hltj HPV.out], by rw [inn_no p _ s0 j hltj HPV.out], by simp, by omega, by omega, by show _ = _; rw [hwr2.out]; exact World.drewN_drewN _ _ _⟩
            · go_wp2_with fail
              go_roundg (gk - 1)
              case measure => omega
              case rel => exact ⟨j + 1, _, by rw [inn_yes p _ s0 j hltj HPV.out], by rw [inn_yes p _ s0 j hltj HPV.out], by simp, by omega, by omega, by show _ = _; rw [hwr2.out]; exact World.drewN_drewN _ _ _⟩
          · go_wp2_with fail
            have hj3 : j = 3 := by omega
            subst hj3
            go_roundg (k0 - 1)
            case measure => omega
            case rel => exact ⟨i + 1, q, by rw [out_step p i hlt, HS0.out], by rw [out_step p i hlt, HS0.out], by simp, by omega, by omega, hwr2⟩
      · have hi3 : i = 3 := by omega
        subst hi3
        rw [HT.out]
        cases bt
        · go_wp2_with fail
          go_ret
          refine ⟨rfl, ?_⟩
          rw [hwr.out]
          exact hu1.trans ((hu2.mono hu1.size).trans (below_drewN _ _ _))
        · go_wp2_with fail
          go_ret
          refine ⟨rfl, ?_⟩
          rw [hwr.out]
          exact hu1.trans ((hu2.mono hu1.size).trans (below_drewN _ _ _))
  · have hq := bytes11_no a n c w hn
    clear h hz
    go_enter Try.func4, Try.ntmps4
    go_wp2_with (first | (go_at_call 11; go_fit hq; rintro e w' ⟨rfl, rfl⟩; clear hq))
    go_ret
    exact ⟨rfl, Below.refl _ _⟩
end Go.Proofs.Qxb6003764a.T
