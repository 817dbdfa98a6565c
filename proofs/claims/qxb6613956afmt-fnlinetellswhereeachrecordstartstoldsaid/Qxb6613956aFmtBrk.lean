/-
  zzBreakOnly; zzSameRecord.
-/
import Derived.Test.Qxb6613956aFmtPos
namespace Go.Proofs.Qxb6613956aFmt.W
open Go.RowKit

theorem brk_law {s : ByteArray} {a b : Nat} (h : a ≤ b) (hb : b ≤ s.size) : (trim (pc s a b) = []) ↔ a = cb s 13 a (cb s 10 a b) := by
  have h1 := cb_ge (s := s) 10 h
  have h2 := cb_ge (s := s) 13 h1.1
  rw [trim_pc h hb, pc_nil (by omega)]
  omega

theorem int_beq (a b : Nat) : ((a : Int) == (b : Int)) = decide (a = b) := by
  rw [Bool.eq_iff_iff]; simp; omega

set_option maxHeartbeats 1000000 in
theorem brk_any (s : ByteArray) (a b : Nat) (w : World) (hs : s.size ≤ 1048600) (h : a ≤ b) (hb : b ≤ s.size) :
    Calls Tryf.prog 33 #[.string s, .int .i64 a, .int .i64 b] w fun e w' => e = .returned (.bool (decide (trim (pc s a b) = []))) ∧ w' = w := by
  have hl := brk_law h hb
  have key : ∀ d : Bool, d = decide (a = cb s 13 a (cb s 10 a b)) → Ending.returned (.bool d) = .returned (.bool (decide (trim (pc s a b) = []))) := fun d hd => by rw [hd]; congr 2; exact (decide_eq_decide.2 hl).symm
  have hbI : (b : Int) ≤ s.size := by omega
  have KEY := hid key
  clear key hl
  by_cases hab : a < b
  · have habI : (a : Int) < b := by omega
    have hb1 : (b : Int) - 1 < s.size := by omega
    have hb0 : (0 : Int) ≤ b - 1 := by omega
    obtain ⟨m, rfl⟩ : ∃ m, b = m + 1 := ⟨b - 1, by omega⟩
    cases h10 : ((s[m].toNat : Int) == 10)
    · have n10 : cb s 10 a (m + 1) = m + 1 := cb_miss hab hb (byte_not (c := 10) h10)
      cases h13 : ((s[m].toNat : Int) == 13)
      · have n13 : cb s 13 a (m + 1) = m + 1 := cb_miss hab hb (byte_not (c := 13) h13)
        have N := hid (show cb s 13 a (cb s 10 a (m + 1)) = m + 1 by rw [n10, n13])
        clear n10 n13
        go_enter Tryf.func33, Tryf.ntmps33
        go_wp2_with fail
        go_ret
        exact ⟨KEY.out _ (by rw [N.out]; exact int_beq a (m + 1)), rfl⟩
      · have n13 : cb s 13 a (m + 1) = m := cb_hit hab hb (byte_is (c := 13) h13)
        have N := hid (show cb s 13 a (cb s 10 a (m + 1)) = m by rw [n10, n13])
        clear n10 n13
        go_enter Tryf.func33, Tryf.ntmps33
        go_wp2_with fail
        go_ret
        exact ⟨KEY.out _ (by rw [N.out]; exact int_beq a m), rfl⟩
    · have n10 : cb s 10 a (m + 1) = m := cb_hit hab hb (byte_is (c := 10) h10)
      by_cases ham : a < m
      · obtain ⟨m', rfl⟩ : ∃ m', m = m' + 1 := ⟨m - 1, by omega⟩
        have c1 : (a : Int) < (m' : Int) + 1 := by omega
        have c2 : (m' : Int) + 1 < s.size := by omega
        have c3 : m' < s.size := by omega
        cases h13 : ((s[m'].toNat : Int) == 13)
        · have n13 : cb s 13 a (m' + 1) = m' + 1 := cb_miss ham (by omega) (byte_not (c := 13) h13)
          have N := hid (show cb s 13 a (cb s 10 a (m' + 1 + 1)) = m' + 1 by rw [n10, n13])
          clear n10 n13
          go_enter Tryf.func33, Tryf.ntmps33
          go_wp2_with fail
          go_ret
          exact ⟨KEY.out _ (by rw [N.out]; exact int_beq a (m' + 1)), rfl⟩
        · have n13 : cb s 13 a (m' + 1) = m' := cb_hit ham (by omega) (byte_is (c := 13) h13)
          have N := hid (show cb s 13 a (cb s 10 a (m' + 1 + 1)) = m' by rw [n10, n13])
          clear n10 n13
          go_enter Tryf.func33, Tryf.ntmps33
          go_wp2_with fail
          go_ret
          exact ⟨KEY.out _ (by rw [N.out]; exact int_beq a m'), rfl⟩
      · have n13 : cb s 13 a m = m := cb_none ham
        have N := hid (show cb s 13 a (cb s 10 a (m + 1)) = m by rw [n10, n13])
        have hd : ¬ ((a : Int) < m) := by omega
        clear n10 n13
        go_enter Tryf.func33, Tryf.ntmps33
        go_wp2_with fail
        go_ret
        exact ⟨KEY.out _ (by rw [N.out]; exact int_beq a m), rfl⟩
  · have n10 : cb s 10 a b = b := cb_none hab
    have n13 : cb s 13 a b = b := cb_none hab
    have N := hid (show cb s 13 a (cb s 10 a b) = b by rw [n10, n13])
    have hd : ¬ ((a : Int) < b) := by omega
    clear n10 n13
    go_enter Tryf.func33, Tryf.ntmps33
    go_wp2_with fail
    go_ret
    exact ⟨KEY.out _ (by rw [N.out]; exact int_beq a b), rfl⟩

/-- a record as a slice of strings lies at v -/
def RecAt (w : World) (v : Value) (r : List (List UInt8)) : Prop := ∃ g c, v = .slice (some ⟨g, 0, none⟩) r.length c ∧ ∀ j (h : j < r.length), w.cell? ⟨g, j, none⟩ = some (.string ⟨(r[j]).toArray⟩)

set_option maxHeartbeats 1000000 in
/-- zzSameRecord of two equal records -/
theorem same_any (v1 v2 : Value) (r : List (List UInt8)) (w : World) (hr : r.length ≤ 1048700) (h1 : RecAt w v1 r) (h2 : RecAt w v2 r) :
    Calls Tryf.prog 15 #[v1, v2] w fun e w' => e = .returned (.bool true) ∧ ∃ n, w' = w.drewN n := by
  obtain ⟨g1, c1, rfl, hc1⟩ := h1
  obtain ⟨g2, c2, rfl, hc2⟩ := h2
  have HC1 := hid hc1
  have HC2 := hid hc2
  clear hc1 hc2
  have hn : ((r.length : Int) != (r.length : Int)) = false := by simp
  go_enter Tryf.func15, Tryf.ntmps15
  go_wp2_with fail
  go_loopg [5] (r.length + 1) (fun k t5 wr => ∃ (i n : Nat), t5 = .int .i64 i ∧ i ≤ r.length ∧ r.length - i < k ∧ wr = w.drewN n)
  case atStart => exact ⟨0, 0, rfl, by omega, by omega, rfl⟩
  case round =>
    obtain ⟨i, n, rfl, hi, hk, hw⟩ := hrel
    by_cases hlt : i < r.length
    · have hI : (i : Int) < r.length := by omega
      have d1 : wr.cell? ⟨g1, i, none⟩ = some (.string ⟨(r[i]).toArray⟩) := by rw [hw]; exact HC1.out i hlt
      have d2 : wr.cell? ⟨g2, i, none⟩ = some (.string ⟨(r[i]).toArray⟩) := by rw [hw]; exact HC2.out i hlt
      obtain ⟨A, hA⟩ : ∃ A : ByteArray, A = ⟨(r[i]).toArray⟩ := ⟨_, rfl⟩
      rw [← hA] at d1 d2
      have HW := hid hw
      clear hA hw
      go_wp2_with fail
      go_quiet (fail)
      go_wp2_with fail
      go_roundg (gk - 1)
      case measure => omega
      case rel => exact ⟨i + 1, n + nq, by simp, by omega, by omega, by rw [HW.out, drewN_drewN]⟩
    · have hI : ¬ ((i : Int) < r.length) := by omega
      have HW := hid hw
      clear hw
      go_wp2_with fail
      go_ret
      exact ⟨rfl, n, HW.out⟩
end Go.Proofs.Qxb6613956aFmt.W
