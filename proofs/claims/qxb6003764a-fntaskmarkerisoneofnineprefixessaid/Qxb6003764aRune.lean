import Derived.Test.Qxb6003764aClone
import Derived.WalkMore
namespace Go.Proofs.Qxb6003764a.T
open Go.RowKit

theorem enc2 (r : Int) (h0 : 128 ≤ r) (h1 : r < 256) : ∃ a b : UInt8, Utf8.encode r = ⟨#[a, b]⟩ ∧ 128 ≤ b.toNat := by
  obtain ⟨n, rfl⟩ := Int.eq_ofNat_of_zero_le (show 0 ≤ r by omega)
  have hv : Utf8.valid (n : Int) = true := by unfold Utf8.valid; simp; omega
  refine ⟨UInt8.ofNat (0xC0 + n / 64), UInt8.ofNat (0x80 + n % 64), ?_, ?_⟩
  · unfold Utf8.encode
    simp only [hv, if_true, Int.toNat_natCast]
    rw [if_neg (by omega), if_pos (by omega)]
  · simp [UInt8.toNat_ofNat]; omega

theorem ixb (a b : UInt8) (hb : 128 ≤ b.toNat) (h : 1 < (⟨#[a, b]⟩ : ByteArray).size) :
    Lib.indexByte ((⟨#[45, 42, 43]⟩ : ByteArray).extract 2 3).data.toList ((((⟨#[a, b]⟩ : ByteArray)[1]'h).toNat : Int)).toNat.toUInt8 = -1 := by
  have e : ((⟨#[a, b]⟩ : ByteArray)[1]'h) = b := rfl
  rw [e, show ((⟨#[45, 42, 43]⟩ : ByteArray).extract 2 3).data.toList = [43] by rfl]
  have : ¬ (43 : UInt8) = b := by intro e; subst e; revert hb; decide
  simp [Lib.indexByte, this]

theorem neb (a b : UInt8) (hb : 128 ≤ b.toNat) (h0 : 1 < (⟨#[45, 42, 43]⟩ : ByteArray).size) (h : 1 < (⟨#[a, b]⟩ : ByteArray).size) :
    ((((⟨#[45, 42, 43]⟩ : ByteArray)[1]'h0).toNat : Int) != (((⟨#[a, b]⟩ : ByteArray)[1]'h).toNat : Int)) = true := by
  have e : ((⟨#[a, b]⟩ : ByteArray)[1]'h) = b := rfl
  have e2 : ((⟨#[45, 42, 43]⟩ : ByteArray)[1]'h0) = 42 := rfl
  rw [e, e2]
  have : (42 : UInt8).toNat = 42 := rfl
  rw [this]
  simp; omega

set_option maxRecDepth 100000 in
set_option maxHeartbeats 400000 in
theorem indexRune_hi (r : Int) (h0 : 128 ≤ r) (h1 : r < 256) (w : World) :
    Calls Try.prog 24 #[.string ⟨#[45, 42, 43]⟩, .int .i32 r] w fun e w' => e = .returned (.int .i64 (-1)) ∧ ∃ n, w' = w.drewN n := by
  obtain ⟨a, b, hE, hb⟩ := enc2 r h0 h1
  have hvr : Lib.validRune r = true := by unfold Lib.validRune; simp; omega
  have e1 : decide (r < 128) = false := by simp; omega
  have e2 : (r == 65533) = false := by simp; omega
  go_enter Try.func24, Try.ntmps24
  go_wp2_with (first | (go_at_call 26; go_fit (Try.utf8_ValidRune r _); rintro e w' ⟨rfl, rfl⟩; rw [hvr]))
  go_step3
  go_wp2_with fail
  go_loopg [9] 1 (fun k t9 wr => t9 = .int .i64 1 ∧ wr = w')
  case atStart => exact ⟨rfl, rfl⟩
  case round =>
    obtain ⟨rfl, rfl⟩ := hrel
    have hw2 : IntKind.i64.wrap 2 = 2 := by decide
    have hsz : 1 < (⟨#[a, b]⟩ : ByteArray).size := Nat.lt_succ_self 1
    have hq1 := neb a b hb (by decide) hsz
    go_wp2_with fail
    go_step3
    go_wp2_with fail
    go_quiet (fail)
    go_wp2_with fail
    obtain ⟨wq, hwq⟩ : ∃ wq, wq = wr.drewN nq := ⟨_, rfl⟩
    rw [← hwq]
    have HWQ := hid hwq
    clear hwq
    have hix := ixb a b hb hsz
    go_quiet ((go_at_call 25; exact Calls.quiet_of_same (Try.strings_IndexByte _ _ _)))
    rw [hix]
    go_wp2_with fail
    rw [Exit.noGoto_ret]
    go_wp2_with fail
    rw [Exit.noGoto_ret]
    go_wp2_with fail
    go_ret
    refine ⟨rfl, ?_⟩
    rw [HWQ.out]
    exact ⟨_, World.drewN_drewN _ _ _⟩

theorem ix_lo : ∀ n : Fin 128, decide (0 ≤ Lib.indexByte (⟨#[45, 42, 43]⟩ : ByteArray).data.toList n.val.toUInt8) = decide (n.val = 45 ∨ n.val = 42 ∨ n.val = 43) := by decide

/-- is it one of the three marks? -/
def isMark (r : Int) : Bool := decide (r = 45 ∨ r = 42 ∨ r = 43)

set_option maxRecDepth 100000 in
set_option maxHeartbeats 400000 in
theorem containsRune_any (r : Int) (h0 : 0 ≤ r) (h1 : r < 256) (w : World) :
    Calls Try.prog 23 #[.string ⟨#[45, 42, 43]⟩, .int .i32 r] w fun e w' => e = .returned (.bool (isMark r)) ∧ ∃ n, w' = w.drewN n := by
  by_cases h : r < 128
  · refine (Try.strings_ContainsRune_ascii ⟨#[45, 42, 43]⟩ r w h0 h).mono ?_
    rintro e w' ⟨rfl, rfl⟩
    refine ⟨ret_b ?_, 0, rfl⟩
    have := ix_lo ⟨r.toNat, by omega⟩
    simp only at this
    rw [this]
    unfold isMark
    congr 1
    apply propext
    omega
  · go_enter Try.func23, Try.ntmps23
    go_wp2_with (first | (go_at_call 24; go_fit (indexRune_hi r (by omega) h1 _); rintro e w' ⟨rfl, n, rfl⟩))
    go_ret
    exact ⟨ret_b (by unfold isMark; simp; omega), n, rfl⟩
end Go.Proofs.Qxb6003764a.T
