import Derived.Test.Qxb6613956aFmtCut3
namespace Go.Proofs.Qxb6613956aFmt.W
open Go.RowKit

theorem pos_of {T : List UInt8} {LW : List (List UInt8)} (e : LW = lns T) {i : Nat} (h : i < LW.length) {A : ByteArray} (hA : A = ⟨(LW[i]).toArray⟩) : 0 < A.size := by
  subst e hA; exact line_pos T i h
theorem only_of {T : List UInt8} {LW : List (List UInt8)} (e : LW = lns T) {i : Nat} (h : i < LW.length) {A : ByteArray} (hA : A = ⟨(LW[i]).toArray⟩) (j : Nat) (hj : j + 1 < A.size) : ((A[j].toNat : Int) == 10) = false := by
  subst e; exact line_only T i h A hA j hj
theorem ends_of {T : List UInt8} {LW : List (List UInt8)} (e : LW = lns T) {i : Nat} (h : i < LW.length) (h1 : i + 1 < LW.length) {A : ByteArray} (hA : A = ⟨(LW[i]).toArray⟩) (hp : A.size - 1 < A.size) : ((A[A.size - 1].toNat : Int) != 10) = false := by
  subst e; exact line_ends T i h1 A hA hp
theorem fit_of {LW : List (List UInt8)} {i : Nat} (h : i < LW.length) {A : ByteArray} (hA : A = ⟨(LW[i]).toArray⟩) : (pre LW i).length + A.size ≤ LW.flatten.length := by
  have := pre_le LW (i + 1)
  rw [pre_succ h, List.length_append] at this
  subst hA
  exact this

set_option maxRecDepth 100000 in
set_option maxHeartbeats 1000000 in
theorem cuts_any (s t : ByteArray) (ea fa : Addr) (w : World) (he : Errs w w.heap.size ea fa) (hs : s.size ≤ 524288) (ht : t.size ≤ 524288) :
    Calls Tryf.prog 7 #[.string s, .string t] w fun e w' => e = .returned (.bool true) ∧ Below w.heap.size w w' := by
  have HZ1 : Hid ((s ++ ⟨#[10]⟩ ++ t).size = s.size + 1 + t.size) := by show _ = _; simp; rfl
  have HZ2 : Hid ((s ++ ⟨#[10]⟩).size = s.size + 1) := by show _ = _; simp; rfl
  have b1 : (s.size : Int) ≤ 524288 := by omega
  have b2 : (t.size : Int) ≤ 524288 := by omega
  go_enter Tryf.func7, Tryf.ntmps7
  go_wp2_with (first | (go_at_call 24; go_fit (bytes24_yes s t _ hs ht); rintro e w' ⟨rfl, rfl⟩))
  have hq := allLines_out (s ++ ⟨#[10]⟩ ++ t) ea fa _ he (by rw [HZ1.out]; omega)
  go_fit hq
  rintro e w1 ⟨v1, rfl, h1⟩
  clear hq
  go_wp2_with fail
  have he1 := (he.upd h1.up (by simp)).grow h1.up.size (Nat.le_refl _)
  have hq := allLines_out (s ++ ⟨#[10]⟩) ea fa _ he1 (by rw [HZ2.out]; omega)
  go_fit hq
  rintro e w2 ⟨v2, rfl, h2⟩
  clear hq
  go_wp2_with fail
  have he2 := (he1.upd h2.up (by simp)).grow h2.up.size (Nat.le_refl _)
  have hq := allLines_out t ea fa _ he2 (by omega)
  go_fit hq
  rintro e w3 ⟨v3, rfl, h3⟩
  clear hq
  obtain ⟨LW, LH, LT, g1, c1, g2, c2, g3, c3, p3, H3⟩ := three_of h1.ow h1.up h2.ow h2.up h3.ow h3.up
  have hv1 := H3.f1
  have hv2 := H3.f2
  have hv3 := H3.f3
  subst hv1 hv2 hv3
  have hlW := H3.lW
  have hcW := H3.cW
  have hne : ((LW.length : Int) != wrap64 ((LH.length : Int) + (LT.length : Int))) = false := by
    rw [bne_eq_false_iff_eq, show wrap64 ((LH.length : Int) + (LT.length : Int)) = (LH.length : Int) + LT.length from IntWalk.wrap64_in _ (by omega)]; omega
  have bW : (LW.length : Int) ≤ 1048577 := by omega
  have hLH : (LH.length : Int) ≤ LW.length := by omega
  replace H3 := hid H3
  clear h1 h2 h3 he1 he2 hlW
  go_wp2_with fail
  go_loopg [11] (LH.length + 1) (fun k t11 wr => ∃ i q : Nat, t11 = .int .i64 i ∧ i ≤ LH.length ∧ LH.length - i < k ∧ wr = w3.drewN q)
  case atStart => exact ⟨0, 0, rfl, by omega, by omega, rfl⟩
  case round =>
    obtain ⟨i, q, rfl, hi, hk, rfl⟩ := hrel
    by_cases hlt : i < LH.length
    · have hlW := H3.out.lW
      have d1 : w3.cell? ⟨g1, i, none⟩ = some (.string ⟨(LH[i]).toArray⟩) := by
        have := H3.out.k1 i (by omega)
        have e := app_l H3.out.app i hlt (by omega)
        rw [e] at this; exact this
      have d2 : w3.cell? ⟨g2, i, none⟩ = some (.string ⟨(LH[i]).toArray⟩) := H3.out.k2 i hlt
      generalize hA : LH[i] = A at d1 d2
      have hiW : i < LW.length := by omega
      have hiW2 : (i : Int) < LW.length := by omega
      clear hlW
      go_wp2_with fail
      go_quiet (fail)
      go_wp2_with fail
      go_roundg (gk - 1)
      case measure => omega
      case rel => exact ⟨i + 1, _, by simp, by omega, by omega, rfl⟩
    · go_wp2_with fail
      clear hk hlt hi
      go_loopg [12] (LT.length + 1) (fun k t12 wr => ∃ i q : Nat, t12 = .int .i64 i ∧ i ≤ LT.length ∧ LT.length - i < k ∧ wr = w3.drewN q)
      case atStart => exact ⟨0, q, rfl, by omega, by omega, rfl⟩
      case round =>
        obtain ⟨i, q, rfl, hi, hk, rfl⟩ := hrel
        by_cases hlt : i < LT.length
        · have hlW := H3.out.lW
          have d1 : w3.cell? ⟨g1, LH.length + i, none⟩ = some (.string ⟨(LT[i]).toArray⟩) := by
            have := H3.out.k1 (LH.length + i) (by omega)
            have e := app_r H3.out.app i hlt (by omega)
            rw [e] at this; exact this
          have d2 : w3.cell? ⟨g3, i, none⟩ = some (.string ⟨(LT[i]).toArray⟩) := H3.out.k3 i hlt
          generalize hA : LT[i] = A at d1 d2
          have hiW : LH.length + i < LW.length := by omega
          have hiW2 : (LH.length : Int) + i < LW.length := by omega
          have hww : wrap64 ((LH.length : Int) + i) = ((LH.length + i : Nat) : Int) := by rw [IntWalk.wrap64_in _ (by omega)]; omega
          clear hlW
          have hp3 := H3.out.q3 (by omega)
          subst hp3
          go_wp2_with fail
          go_quiet (fail)
          go_wp2_with fail
          go_roundg (gk - 1)
          case measure => omega
          case rel => exact ⟨i + 1, _, by simp, by omega, by omega, rfl⟩
        · go_wp2_with fail
          clear hk hlt hi
          go_loopg [13, 14] (s.size + 1) (fun k t13 t14 wr => ∃ i q : Nat, t13 = .int .i64 (1 + cnt s i) ∧ t14 = .int .i64 i ∧ i ≤ s.size ∧ s.size - i < k ∧ wr = w3.drewN q)
          case atStart => exact ⟨0, q, by rw [cnt_zero]; rfl, rfl, by omega, by omega, rfl⟩
          case round =>
            obtain ⟨i, q, rfl, rfl, hi, hk, rfl⟩ := hrel
            have hcl := cnt_le s i
            by_cases hlt : i < s.size
            · by_cases hc : (s[i].toNat : Int) = 10
              · have hc2 : ((s[i].toNat : Int) == 10) = true := by simp [hc]
                have HC := hid hc
                clear hc
                go_wp2
                go_roundg (gk - 1)
                case measure => omega
                case rel => exact ⟨i + 1, q, by rw [cnt_hit hlt HC.out]; simp; omega, by simp, by omega, by omega, rfl⟩
              · have hc2 : ((s[i].toNat : Int) == 10) = false := by simp [hc]
                have HC := hid hc
                clear hc
                go_wp2
                go_roundg (gk - 1)
                case measure => omega
                case rel => exact ⟨i + 1, q, by rw [cnt_miss hlt HC.out], by simp, by omega, by omega, rfl⟩
            · rw [cnt_all s i hlt] at hcl ⊢
              go_wp2_with fail
              have hcsb : s.data.toList.count 10 ≤ s.size := by rw [Lib.size_eq]; exact List.count_le_length
              generalize hcs : s.data.toList.count 10 = cs at hcl hcsb ⊢
              clear hk hlt hi
              go_loopg [13, 15] (t.size + 1) (fun k t13 t15 wr => ∃ i q : Nat, t13 = .int .i64 (1 + cs + cnt t i) ∧ t15 = .int .i64 i ∧ i ≤ t.size ∧ t.size - i < k ∧ wr = w3.drewN q)
              case atStart => exact ⟨0, q, by rw [cnt_zero]; simp, rfl, by omega, by omega, rfl⟩
              case round =>
                obtain ⟨i, q, rfl, rfl, hi, hk, rfl⟩ := hrel
                have hcl := cnt_le t i
                by_cases hlt : i < t.size
                · by_cases hc : (t[i].toNat : Int) = 10
                  · have hc2 : ((t[i].toNat : Int) == 10) = true := by simp [hc]
                    have HC := hid hc
                    clear hc
                    go_wp2
                    go_roundg (gk - 1)
                    case measure => omega
                    case rel => exact ⟨i + 1, q, by rw [cnt_hit hlt HC.out]; simp; omega, by simp, by omega, by omega, rfl⟩
                  · have hc2 : ((t[i].toNat : Int) == 10) = false := by simp [hc]
                    have HC := hid hc
                    clear hc
                    go_wp2
                    go_roundg (gk - 1)
                    case measure => omega
                    case rel => exact ⟨i + 1, q, by rw [cnt_miss hlt HC.out], by simp, by omega, by omega, rfl⟩
                · rw [cnt_all t i hlt] at hcl ⊢
                  generalize hct : t.data.toList.count 10 = ct at hcl ⊢
                  have hw3 : (t.size = 0 ∧ (1 : Int) + cs + ct = LW.length) ∨ (0 < t.size ∧ ∃ h : t.size - 1 < t.size, ((t[t.size - 1].toNat : Int) != 10) = false ∧ (1 : Int) + cs + ct = LW.length) ∨ (0 < t.size ∧ ∃ h : t.size - 1 < t.size, ((t[t.size - 1].toNat : Int) != 10) = true ∧ (1 : Int) + cs + ct + 1 = LW.length) := by
                    by_cases ht0 : t.size = 0
                    · exact .inl ⟨ht0, by rw [H3.out.eW, want_0 s t ht0, hcs, hct]; simp⟩
                    · have hl1 : t.size - 1 < t.size := by omega
                      by_cases hc : (t[t.size - 1].toNat : Int) = 10
                      · exact .inr (.inl ⟨by omega, hl1, by simp [hc], by rw [H3.out.eW, want_1 s t hl1 hc, hcs, hct]; simp⟩)
                      · exact .inr (.inr ⟨by omega, hl1, by simp [hc], by rw [H3.out.eW, want_2 s t hl1 hc, hcs, hct]; simp⟩)
                  have hjl : (s ++ ⟨#[10]⟩ ++ t).data.toList.length = s.size + 1 + t.size := by rw [← HZ1.out]; exact (Lib.size_eq _).symm
                  have hflat : LW.flatten = (s ++ ⟨#[10]⟩ ++ t).data.toList := by rw [H3.out.eW, lns_join, whole_text]
                  rw [← hflat] at hjl
                  have HFLAT := hid hflat
                  clear hflat
                  obtain ⟨i0, hi5, hz0, hz1, hz2⟩ := info_parts info5b
                  rcases hw3 with ⟨ht0, hw⟩ | ⟨ht0, hl1, hc2, hw⟩ | ⟨ht0, hl1, hc2, hw⟩
                  have hd : decide ((0 : Int) < (t.size : Int)) = false := by simp [ht0]
                  rw [hw]
                  replace hw := hid hw
                  rotate_left
                  have hd : decide ((0 : Int) < (t.size : Int)) = true := by simp; omega
                  have hpt : (0 : Int) < (t.size : Int) := by omega
                  rw [hw]
                  replace hw := hid hw
                  rotate_left
                  have hd : decide ((0 : Int) < (t.size : Int)) = true := by simp; omega
                  have hpt : (0 : Int) < (t.size : Int) := by omega
                  replace hw := hid hw
                  rotate_left
                  go_wp2_with fail
                  all_goals (try rw [hw.out])
                  all_goals clear hw hd ht0
                  all_goals
                    clear hlt hi hk hcl
                    go_loopg [16, 17] (LW.length + 1) (fun k t16 t17 wr => ∃ i : Nat, t17 = .int .i64 i ∧ i ≤ LW.length ∧ LW.length - i < k ∧ J5 w3 wr LW t16 i)
                    case atStart => exact ⟨0, rfl, by omega, by omega, J5.start _ _ _⟩
                    case round =>
                      obtain ⟨i, rfl, hi, hk, hj⟩ := hrel
                      have hpl := pre_le LW i
                      by_cases hlt : i < LW.length
                      · have hiI : (i : Int) < LW.length := by omega
                        have d1 : wr.cell? ⟨g1, i, none⟩ = some (.string ⟨(LW[i]).toArray⟩) := (World.cell?_of_block (hj.up.block g1 H3.out.z1 (by simp))).trans (H3.out.k1 i hlt)
                        obtain ⟨A, hA⟩ : ∃ A : ByteArray, A = ⟨(LW[i]).toArray⟩ := ⟨_, rfl⟩
                        rw [← hA] at d1
                        have hAp := pos_of H3.out.eW hlt hA
                        have hAz := fit_of hlt hA
                        have hApI : (0 : Int) < A.size := by omega
                        have HJ := hid hj
                        have HA := hid hA
                        clear hj hA
                        go_wp2_with fail
                        go_loop [19] (fun v => ∃ j : Nat, v = .int .i64 j ∧ j < A.size) (fun v => A.size - (intOf v).toNat)
                        case atStart => exact ⟨0, rfl, hAp⟩
                        case round =>
                          obtain ⟨j, rfl, hj⟩ := hrel
                          by_cases hj1 : j + 1 < A.size
                          · have hjI : (j : Int) + 1 < A.size := by omega
                            have hAo := only_of H3.out.eW hlt HA.out j hj1
                            go_wp2_with fail
                            go_round
                            case rel => exact ⟨j + 1, by go_num, hj1⟩
                            case measure => simp [intOf]; omega
                          · have hl1 : A.size - 1 < A.size := by omega
                            by_cases hi1 : i + 1 < LW.length
                            · have hd1 : decide ((i : Int) + 1 < (LW.length : Int)) = true := by simp; omega
                              have hAe := ends_of H3.out.eW hlt hi1 HA.out hl1
                              go_wp2_with (first | (at_builtin; refine Lib.wpList_append_own_string _ rfl (.tmp 176) (.tmp 177) 43 9 rfl w3.heap.size 5 i0 Tryf.underlying43 Tryf.underlying9 hi5 hz0 hz1 hz2 _ (pre LW i).length _ rfl HJ.out.ow A rfl (by unfold maxLen; omega) (by omega) (by have := HJ.out.up.size; omega) ?_; intro v4 w4 HO4 HG4 _))
                              go_roundg (gk - 1)
                              case measure => omega
                              case rel => exact ⟨i + 1, by simp, by omega, by omega, HJ.out.step hlt HA.out HO4 HG4⟩
                            · have hd1 : decide ((i : Int) + 1 < (LW.length : Int)) = false := by simp; omega
                              go_wp2_with (first | (at_builtin; refine Lib.wpList_append_own_string _ rfl (.tmp 176) (.tmp 177) 43 9 rfl w3.heap.size 5 i0 Tryf.underlying43 Tryf.underlying9 hi5 hz0 hz1 hz2 _ (pre LW i).length _ rfl HJ.out.ow A rfl (by unfold maxLen; omega) (by omega) (by have := HJ.out.up.size; omega) ?_; intro v4 w4 HO4 HG4 _))
                              go_roundg (gk - 1)
                              case measure => omega
                              case rel => exact ⟨i + 1, by simp, by omega, by omega, HJ.out.step hlt HA.out HO4 HG4⟩
                      · have hX : 0 < (s ++ ⟨#[10]⟩ ++ t).size := by rw [HZ1.out]; omega
                        obtain ⟨g, c, rfl, hconv⟩ := hj.conv hlt (s ++ ⟨#[10]⟩ ++ t) HFLAT.out hX
                        have hcv : (convert 43 9 (.slice (some ⟨g, 0, none⟩) (s ++ ⟨#[10]⟩ ++ t).size c)).run Tryf.prog wr = .ok (.string (s ++ ⟨#[10]⟩ ++ t)) wr := hconv 0
                        clear hconv
                        generalize (s ++ ⟨#[10]⟩ ++ t).size = n at hcv hj ⊢
                        have HJ := hid hj
                        clear hj hX
                        go_wp2
                        go_ret
                        refine ⟨rfl, (H3.out.up.trans HJ.out.up).below (Nat.le_refl _) (by simp)⟩
end Go.Proofs.Qxb6613956aFmt.W
