import Derived.Test.Qxb6003764aRune
namespace Go.Proofs.Qxb6003764a.T
open Go.RowKit

/-- the plain form of zzHasTaskPrefix at six bytes or more -/
def hp (z : Nat → Int) (m b : Int) : Bool := (z 0 == m) && (z 1 == 32) && (z 2 == 91) && (z 3 == b) && (z 4 == 93) && (z 5 == 32)

set_option maxRecDepth 100000 in
set_option maxHeartbeats 400000 in
theorem has_short (w : World) (a : Option Addr) (n c : Nat) (m b : Int) (h : n < 6) :
    Calls Try.prog 14 #[.slice a n c, .int .u8 m, .int .u8 b] w fun e w' => e = .returned (.bool false) ∧ w' = w := by
  have h2 : (n : Int) < 6 := by omega
  go_enter Try.func14, Try.ntmps14
  go_wp2
  go_ret
  exact ⟨rfl, rfl⟩

set_option maxRecDepth 100000 in
set_option maxHeartbeats 1000000 in
theorem has_long (w : World) (g : Nat) (n c : Nat) (z : Nat → Int) (m b : Int) (h : 6 ≤ n) (hc : ∀ i, i < n → w.cell? ⟨g, i, none⟩ = some (.int .u8 (z i))) :
    Calls Try.prog 14 #[.slice (some ⟨g, 0, none⟩) n c, .int .u8 m, .int .u8 b] w fun e w' => e = .returned (.bool (hp z m b)) ∧ w' = w := by
  have h2 : (6 : Int) ≤ n := by omega
  have k0 := hc 0 (by omega)
  have k1 := hc 1 (by omega)
  have k2 := hc 2 (by omega)
  have k3 := hc 3 (by omega)
  have k4 := hc 4 (by omega)
  have k5 := hc 5 (by omega)
  clear hc
  by_cases e0 : (z 0 == m) = true
  · by_cases e1 : (z 1 == 32) = true
    · by_cases e2 : (z 2 == 91) = true
      · by_cases e3 : (z 3 == b) = true
        · by_cases e4 : (z 4 == 93) = true
          · by_cases e5 : (z 5 == 32) = true
            · go_enter Try.func14, Try.ntmps14
              go_wp2
              go_ret
              exact ⟨ret_b (by simp [hp, e0, e1, e2, e3, e4, e5]), rfl⟩
            · simp only [Bool.not_eq_true] at e5
              go_enter Try.func14, Try.ntmps14
              go_wp2
              go_ret
              exact ⟨ret_b (by simp [hp, e0, e1, e2, e3, e4, e5]), rfl⟩
          · simp only [Bool.not_eq_true] at e4
            go_enter Try.func14, Try.ntmps14
            go_wp2
            go_ret
            exact ⟨ret_b (by simp [hp, e0, e1, e2, e3, e4]), rfl⟩
        · simp only [Bool.not_eq_true] at e3
          go_enter Try.func14, Try.ntmps14
          go_wp2
          go_ret
          exact ⟨ret_b (by simp [hp, e0, e1, e2, e3]), rfl⟩
      · simp only [Bool.not_eq_true] at e2
        go_enter Try.func14, Try.ntmps14
        go_wp2
        go_ret
        exact ⟨ret_b (by simp [hp, e0, e1, e2]), rfl⟩
    · simp only [Bool.not_eq_true] at e1
      go_enter Try.func14, Try.ntmps14
      go_wp2
      go_ret
      exact ⟨ret_b (by simp [hp, e0, e1]), rfl⟩
  · simp only [Bool.not_eq_true] at e0
    go_enter Try.func14, Try.ntmps14
    go_wp2
    go_ret
    exact ⟨ret_b (by simp [hp, e0]), rfl⟩
end Go.Proofs.Qxb6003764a.T
