import Derived.Test.Qxb6003764aPre
namespace Go.Proofs.Qxb6003764a.T
open Go.RowKit

/-- the line starts with a mark, " [", any byte, "] " -/
def tm (z : Nat → Int) : Bool := isMark (z 0) && ((z 1 == 32) && (z 2 == 91)) && ((z 4 == 93) && (z 5 == 32))

theorem nums_ne (a b : Int) (u v : UInt8) (ha : 0 ≤ a ∧ a < 256) (hb : 0 ≤ b ∧ b < 256) : ((strOfNums [a, b]).toList == [u, v]) = ((a == (u.toNat : Int)) && (b == (v.toNat : Int))) := by
  obtain ⟨m, rfl⟩ := Int.eq_ofNat_of_zero_le ha.1
  obtain ⟨n, rfl⟩ := Int.eq_ofNat_of_zero_le hb.1
  have e : (strOfNums [(m : Int), (n : Int)]).toList = [m.toUInt8, n.toUInt8] := by rw [Lib.toList_data]; simp [strOfNums]
  rw [e]
  have hm : m.toUInt8.toNat = m := by simp; omega
  have hn : n.toUInt8.toNat = n := by simp; omega
  have i1 : (m.toUInt8 = u) ↔ ((m : Int) = (u.toNat : Int)) := by
    constructor
    · intro h; rw [← h, hm]
    · intro h; apply UInt8.toNat_inj.1; rw [hm]; omega
  have i2 : (n.toUInt8 = v) ↔ ((n : Int) = (v.toNat : Int)) := by
    constructor
    · intro h; rw [← h, hn]
    · intro h; apply UInt8.toNat_inj.1; rw [hn]; omega
  rw [Bool.eq_iff_iff]
  simp only [beq_iff_eq, Bool.and_eq_true, List.cons.injEq, and_true, i1, i2]

set_option maxRecDepth 100000 in
set_option maxHeartbeats 400000 in
theorem task_short (w : World) (a : Option Addr) (n c : Nat) (h : n < 6) :
    Calls Try.prog 20 #[.slice a n c] w fun e w' => e = .returned (.tuple #[.bool false, .bool false]) ∧ w' = w := by
  have h2 : (n : Int) < 6 := by omega
  have h3 : decide ((n : Int) < 6) = true := by simp; omega
  go_enter Try.func20, Try.ntmps20
  go_wp2
  go_ret2
  exact ⟨rfl, rfl⟩

set_option maxRecDepth 100000 in
set_option maxHeartbeats 2000000 in
theorem task_long (w : World) (g n c : Nat) (z : Nat → Int) (h : 6 ≤ n) (hnc : n ≤ c) (hcm : c ≤ maxLen) (hz : ∀ i, i < n → 0 ≤ z i ∧ z i < 256) (hc : ∀ i, i < n → w.cell? ⟨g, i, none⟩ = some (.int .u8 (z i))) :
    Calls Try.prog 20 #[.slice (some ⟨g, 0, none⟩) n c] w fun e w' => e = .returned (.tuple #[.bool (tm z && ((z 3 == 32) || (z 3 == 120) || (z 3 == 88))), .bool (tm z && ((z 3 == 120) || (z 3 == 88)))]) ∧ ∃ m, w' = w.drewN m := by
  have h2 : (6 : Int) ≤ n := by omega
  have h4 : (6 : Int) ≤ c := by omega
  have h5 : (c : Int) ≤ 9223372036854775807 := by unfold maxLen at hcm; omega
  have h3 : decide ((n : Int) < 6) = false := by simp; omega
  have k0 := hc 0 (by omega)
  have k3 := hc 3 (by omega)
  have hz0 := hz 0 (by omega)
  have v1 : ∀ m, (convert 27 9 (.slice (some ⟨g, 1, none⟩) 2 (c - 1))).run Try.prog (w.drewN m) = .ok (.string (strOfNums [z 1, z 2])) (w.drewN m) := fun m =>
    run_convert_bytes_arg (P := Try.prog) (w.drewN m) 27 5 Try.underlying27 Try.underlying5 g 1 2 (c - 1) [z 1, z 2] rfl (fun i hi => by
      match i, hi with
      | 0, _ => exact hc 1 (by omega)
      | 1, _ => exact hc 2 (by omega)) 9 Try.underlying9
  have v2 : ∀ m, (convert 27 9 (.slice (some ⟨g, 4, none⟩) 2 (c - 4))).run Try.prog (w.drewN m) = .ok (.string (strOfNums [z 4, z 5])) (w.drewN m) := fun m =>
    run_convert_bytes_arg (P := Try.prog) (w.drewN m) 27 5 Try.underlying27 Try.underlying5 g 4 2 (c - 4) [z 4, z 5] rfl (fun i hi => by
      match i, hi with
      | 0, _ => exact hc 4 (by omega)
      | 1, _ => exact hc 5 (by omega)) 9 Try.underlying9
  have x1 := nums_ne (z 1) (z 2) 32 91 (hz 1 (by omega)) (hz 2 (by omega))
  have x2 := nums_ne (z 4) (z 5) 93 32 (hz 4 (by omega)) (hz 5 (by omega))
  have n32 : (((32 : UInt8).toNat : Nat) : Int) = 32 := rfl
  have n91 : (((91 : UInt8).toNat : Nat) : Int) = 91 := rfl
  have n93 : (((93 : UInt8).toNat : Nat) : Int) = 93 := rfl
  rw [n32, n91] at x1
  rw [n32, n93] at x2
  generalize strOfNums [z 1, z 2] = X1 at v1 x1
  generalize strOfNums [z 4, z 5] = X2 at v2 x2
  unfold tm
  generalize hb1 : ((z 1 == 32) && (z 2 == 91)) = b1 at x1 ⊢
  generalize hb2 : ((z 4 == 93) && (z 5 == 32)) = b2 at x2 ⊢
  clear n32 n91 n93 hz hc hb1 hb2
  generalize hmk : isMark (z 0) = bm
  have HM := hid hmk
  clear hmk
  cases bm
  · go_enter Try.func20, Try.ntmps20
    go_wp2_with (first | (go_at_call 23; go_fit (containsRune_any (z 0) hz0.1 hz0.2 _); rintro e w' ⟨rfl, m, rfl⟩; rw [HM.out]))
    go_ret2
    exact ⟨rfl, _, rfl⟩
  · cases b1
    · go_enter Try.func20, Try.ntmps20
      go_wp2_with (first | (go_at_call 23; go_fit (containsRune_any (z 0) hz0.1 hz0.2 _); rintro e w' ⟨rfl, m, rfl⟩; rw [HM.out]))
      go_ret2
      exact ⟨rfl, _, rfl⟩
    · cases b2
      · go_enter Try.func20, Try.ntmps20
        go_wp2_with (first | (go_at_call 23; go_fit (containsRune_any (z 0) hz0.1 hz0.2 _); rintro e w' ⟨rfl, m, rfl⟩; rw [HM.out]))
        go_ret2
        exact ⟨rfl, _, rfl⟩
      · generalize hc1 : (z 3 == 32) = d1
        generalize hc2 : (z 3 == 120) = d2
        generalize hc3 : (z 3 == 88) = d3
        cases d1
        · cases d2
          · cases d3
            all_goals
              go_enter Try.func20, Try.ntmps20
              go_wp2_with (first | (go_at_call 23; go_fit (containsRune_any (z 0) hz0.1 hz0.2 _); rintro e w' ⟨rfl, m, rfl⟩; rw [HM.out]))
              go_ret2
              exact ⟨rfl, _, rfl⟩
          · go_enter Try.func20, Try.ntmps20
            go_wp2_with (first | (go_at_call 23; go_fit (containsRune_any (z 0) hz0.1 hz0.2 _); rintro e w' ⟨rfl, m, rfl⟩; rw [HM.out]))
            go_ret2
            exact ⟨rfl, _, rfl⟩
        · have q2 : d2 = false := by
            rw [← hc2]
            have : z 3 = 32 := by simpa using hc1
            rw [this]; rfl
          have q3 : d3 = false := by
            rw [← hc3]
            have : z 3 = 32 := by simpa using hc1
            rw [this]; rfl
          subst q2 q3
          clear hc2 hc3
          go_enter Try.func20, Try.ntmps20
          go_wp2_with (first | (go_at_call 23; go_fit (containsRune_any (z 0) hz0.1 hz0.2 _); rintro e w' ⟨rfl, m, rfl⟩; rw [HM.out]))
          go_ret2
          exact ⟨rfl, _, rfl⟩
end Go.Proofs.Qxb6003764a.T
