import Derived.Test.Qxb6003764aTask
namespace Go.Proofs.Qxb6003764a.T
open Go.RowKit

/-- what zzHasTaskPrefix answers -/
def has (n : Nat) (z : Nat → Int) (m b : Int) : Bool := if n < 6 then false else hp z m b
def isT (n : Nat) (z : Nat → Int) : Bool := if n < 6 then false else tm z && ((z 3 == 32) || (z 3 == 120) || (z 3 == 88))
def isD (n : Nat) (z : Nat → Int) : Bool := if n < 6 then false else tm z && ((z 3 == 120) || (z 3 == 88))

theorem has_any (w : World) (v : Value) (n : Nat) (z : Nat → Int) (m b : Int) (h : BR2 w v n z) :
    Calls Try.prog 14 #[v, .int .u8 m, .int .u8 b] w fun e w' => e = .returned (.bool (has n z m b)) ∧ w' = w := by
  unfold has
  rcases h with ⟨rfl, rfl⟩ | ⟨g, cap, rfl, h1, h2, h3⟩
  · exact has_short w none 0 0 m b (by omega)
  · by_cases hn : n < 6
    · rw [if_pos hn]; exact has_short w _ n cap m b hn
    · rw [if_neg hn]; exact has_long w g n cap z m b (by omega) h3

theorem task_any (w : World) (v : Value) (n : Nat) (z : Nat → Int) (h : BR2 w v n z) (hz : ∀ i, i < n → 0 ≤ z i ∧ z i < 256) :
    Calls Try.prog 20 #[v] w fun e w' => e = .returned (.tuple #[.bool (isT n z), .bool (isD n z)]) ∧ ∃ m, w' = w.drewN m := by
  unfold isT isD
  rcases h with ⟨rfl, rfl⟩ | ⟨g, cap, rfl, h1, h2, h3⟩
  · refine (task_short w none 0 0 (by omega)).mono ?_
    rintro e w' ⟨rfl, rfl⟩
    exact ⟨rfl, 0, rfl⟩
  · by_cases hn : n < 6
    · rw [if_pos hn, if_pos hn]
      refine (task_short w _ n cap hn).mono ?_
      rintro e w' ⟨rfl, rfl⟩
      exact ⟨rfl, 0, rfl⟩
    · rw [if_neg hn, if_neg hn]; exact task_long w g n cap z (by omega) h1 h2 hz h3

set_option maxRecDepth 100000 in
set_option maxHeartbeats 400000 in
theorem zztask_any (w : World) (v : Value) (n : Nat) (z : Nat → Int) (h : BR2 w v n z) (hz : ∀ i, i < n → 0 ≤ z i ∧ z i < 256) :
    Calls Try.prog 13 #[v] w fun e w' => e = .returned (.tuple #[.bool (isT n z), .bool (isD n z)]) ∧ ∃ m, w' = w.drewN m := by
  have hq := task_any w v n z h hz
  clear h hz
  generalize isT n z = a at hq ⊢
  generalize isD n z = b at hq ⊢
  go_enter Try.func13, Try.ntmps13
  go_wp2_with (first | (go_at_call 20; go_fit hq; rintro e w' ⟨rfl, m, rfl⟩; clear hq))
  go_ret2
  exact ⟨rfl, m, rfl⟩

/-- the loops' two variables, one step on -/
def upd (p : Int → Int → Bool) (m b : Int) (s : Bool × Bool) : Bool × Bool := if p m b then (true, b != 32) else s
def inn (p : Int → Int → Bool) (m : Int) (s : Bool × Bool) : Nat → Bool × Bool
  | 0 => s
  | 1 => upd p m 32 s
  | 2 => upd p m 120 (upd p m 32 s)
  | _ => upd p m 88 (upd p m 120 (upd p m 32 s))
def out (p : Int → Int → Bool) : Nat → Bool × Bool
  | 0 => (false, false)
  | 1 => inn p 45 (false, false) 3
  | 2 => inn p 42 (inn p 45 (false, false) 3) 3
  | _ => inn p 43 (inn p 42 (inn p 45 (false, false) 3) 3) 3

theorem out_is (n : Nat) (z : Nat → Int) : out (has n z) 3 = (isT n z, isD n z) := by
  by_cases hn : n < 6
  · simp [out, inn, upd, has, isT, isD, hn]
  · simp only [out, inn, upd, has, isT, isD, hn, if_false, hp, tm, isMark]
    by_cases h1 : z 1 = 32 <;> by_cases h2 : z 2 = 91 <;> by_cases h4 : z 4 = 93 <;> by_cases h5 : z 5 = 32 <;> simp [h1, h2, h4, h5]
    by_cases a1 : z 0 = 45
    · by_cases b1 : z 3 = 32
      · simp [a1, b1]
      · by_cases b2 : z 3 = 120
        · simp [a1, b2]
        · by_cases b3 : z 3 = 88
          · simp [a1, b3]
          · simp [a1, b1, b2, b3]
    · by_cases a2 : z 0 = 42
      · by_cases b1 : z 3 = 32
        · simp [a2, b1]
        · by_cases b2 : z 3 = 120
          · simp [a2, b2]
          · by_cases b3 : z 3 = 88
            · simp [a2, b3]
            · simp [a2, b1, b2, b3]
      · by_cases a3 : z 0 = 43
        · by_cases b1 : z 3 = 32
          · simp [a3, b1]
          · by_cases b2 : z 3 = 120
            · simp [a3, b2]
            · by_cases b3 : z 3 = 88
              · simp [a3, b3]
              · simp [a3, b1, b2, b3]
        · simp [a1, a2, a3]
end Go.Proofs.Qxb6003764a.T
