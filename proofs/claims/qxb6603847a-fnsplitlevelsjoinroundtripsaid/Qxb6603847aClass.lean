import Derived.Test.Qxb6603847aRows
import Derived.Test.Qxb6603847aShelf
import Derived.Test.Qxb6603847aPlain
import Derived.WalkKit
import Derived.ProofKit
import Derived.WalkSpells
import Derived.Lib.SmallJoins
import Derived.Deep.QuietTactic
import Derived.BigQuiet
import Derived.Deep.DeepFit
import Derived.Deep.LoopGhost
import Derived.OwnWalk
import Derived.Below
import Derived.Laws.BytesArg
namespace Go.Proofs.Qxb6603847a.S
open Go.RowKit

theorem hid {p : Prop} (h : p) : Hid p := h
theorem ret_b {a b : Bool} (h : a = b) : Ending.returned (.bool a) = .returned (.bool b) := by rw [h]
theorem ret_i {a b : Int} (h : a = b) : Ending.returned (.int .i64 a) = .returned (.int .i64 b) := by rw [h]

theorem ext_len (s : ByteArray) (i : Nat) (h : i ≤ s.size) : (s.extract i s.size).data.toList.length = s.size - i := by
  rw [Lib.extract_data, List.length_take, List.length_drop, ← Lib.size_eq]; omega
theorem two (a b : UInt8) : (⟨#[a, b]⟩ : ByteArray).data.toList.length = 2 := rfl

set_option maxRecDepth 100000 in
set_option maxHeartbeats 1000000 in
theorem classEnd_any (s : ByteArray) (o : Nat) (m : Int) (w : World) (hs : s.size ≤ 65536) (ho : o < s.size) (hm : w.cell? ⟨0, 0, none⟩ = some (.int .i64 m)) :
    Calls Try.prog 12 #[.string s, .int .i64 o] w fun e w' => (∃ r : Nat, e = .returned (.int .i64 r) ∧ o ≤ r ∧ r < s.size) ∧ w' = w := by
  have hsI : (s.size : Int) ≤ 65536 := by omega
  have hoI : (o : Int) < s.size := by omega
  have hcase : (∃ h1 : o + 1 < s.size, ∃ h2 : o + 2 < s.size, ((s[o + 1].toNat : Int) == 94) = true ∧ ((s[o + 2].toNat : Int) == 93) = true ∧ decide ((o : Int) + 1 < s.size) = true ∧ decide ((o : Int) + 2 < s.size) = true) ∨
      (∃ h1 : o + 1 < s.size, ∃ h2 : o + 2 < s.size, ((s[o + 1].toNat : Int) == 94) = true ∧ ((s[o + 2].toNat : Int) == 93) = false ∧ decide ((o : Int) + 1 < s.size) = true ∧ decide ((o : Int) + 2 < s.size) = true) ∨
      (∃ h1 : o + 1 < s.size, ∃ h2 : ¬ o + 2 < s.size, ((s[o + 1].toNat : Int) == 94) = true ∧ True ∧ decide ((o : Int) + 1 < s.size) = true ∧ decide ((o : Int) + 2 < s.size) = false) ∨
      (∃ h1 : o + 1 < s.size, ∃ _ : True, ((s[o + 1].toNat : Int) == 94) = false ∧ ((s[o + 1].toNat : Int) == 93) = true ∧ decide ((o : Int) + 1 < s.size) = true ∧ True) ∨
      (∃ h1 : o + 1 < s.size, ∃ _ : True, ((s[o + 1].toNat : Int) == 94) = false ∧ ((s[o + 1].toNat : Int) == 93) = false ∧ decide ((o : Int) + 1 < s.size) = true ∧ True) ∨
      (∃ h1 : ¬ o + 1 < s.size, ∃ _ : True, True ∧ True ∧ decide ((o : Int) + 1 < s.size) = false ∧ True) := by
    by_cases a : o + 1 < s.size
    · have aD : decide ((o : Int) + 1 < s.size) = true := by simp; omega
      cases b : ((s[o + 1].toNat : Int) == 94)
      · cases d : ((s[o + 1].toNat : Int) == 93)
        · exact .inr (.inr (.inr (.inr (.inl ⟨a, trivial, b, d, aD, trivial⟩))))
        · exact .inr (.inr (.inr (.inl ⟨a, trivial, b, d, aD, trivial⟩)))
      · by_cases c : o + 2 < s.size
        · have cD : decide ((o : Int) + 2 < s.size) = true := by simp; omega
          cases d : ((s[o + 2].toNat : Int) == 93)
          · exact .inr (.inl ⟨a, c, b, d, aD, cD⟩)
          · exact .inl ⟨a, c, b, d, aD, cD⟩
        · exact .inr (.inr (.inl ⟨a, c, b, trivial, aD, by simp; omega⟩))
    · exact .inr (.inr (.inr (.inr (.inr ⟨a, trivial, trivial, trivial, by simp; omega, trivial⟩))))
  rcases hcase with ⟨h1, h2, h3, h4, h5, h6⟩ | ⟨h1, h2, h3, h4, h5, h6⟩ | ⟨h1, h2, h3, h4, h5, h6⟩ | ⟨h1, h2, h3, h4, h5, h6⟩ | ⟨h1, h2, h3, h4, h5, h6⟩ | ⟨h1, h2, h3, h4, h5, h6⟩
  all_goals
    go_enter Try.func12, Try.ntmps12
    go_wp2_with fail
    clear h3 h4 h5 h6
    go_loop [5] (fun v => ∃ i : Nat, v = .int .i64 i ∧ o < i ∧ i ≤ s.size + 2) (fun v => s.size + 3 - (intOf v).toNat)
    case atStart => first | exact ⟨o + 1, by go_num, by omega, by omega⟩ | exact ⟨o + 2, by go_num, by omega, by omega⟩ | exact ⟨o + 3, by go_num, by omega, by omega⟩
    case round =>
      obtain ⟨i, rfl, hi1, hi2⟩ := hrel
      clear h1 h2
      by_cases hlt : i < s.size
      · have hltI : (i : Int) < s.size := by omega
        cases e1 : ((s[i].toNat : Int) == 92)
        · cases e2 : ((s[i].toNat : Int) == 93)
          · go_wp2_with fail
            have hq := Try.strings_HasPrefix (s.extract i s.size) ⟨#[91, 58]⟩ w
            generalize hpv : Lib.hasPrefix (s.extract i s.size).data.toList (⟨#[91, 58]⟩ : ByteArray).data.toList = pv at hq
            go_fit hq
            rintro e w' ⟨rfl, rfl⟩
            clear hq
            cases pv
            · clear hpv
              go_wp2_with fail
              go_round
              case rel => exact ⟨i + 1, by go_num, by omega, by omega⟩
              case measure => simp [intOf]; omega
            · have hfit := prefix_fit _ _ hpv
              rw [ext_len s i (by omega), two] at hfit
              clear hpv
              have hf2 : (i : Int) + 2 ≤ s.size := by omega
              go_wp2_with fail
              have hq := Try.strings_Index (s.extract (i + 2) s.size) ⟨#[58, 93]⟩ m _ (by rw [Lib.size_eq, ext_len s (i + 2) (by omega)]; omega) hm
              have hx1 := Lib.index_ge (s.extract (i + 2) s.size).data.toList (⟨#[58, 93]⟩ : ByteArray).data.toList
              have hx2 := index_fit (s.extract (i + 2) s.size).data.toList (⟨#[58, 93]⟩ : ByteArray).data.toList
              rw [ext_len s (i + 2) (by omega), two] at hx2
              generalize Lib.index (s.extract (i + 2) s.size).data.toList (⟨#[58, 93]⟩ : ByteArray).data.toList = x at hq hx1 hx2
              go_fit hq
              rintro e w' ⟨rfl, rfl⟩
              clear hq
              by_cases hx0 : 0 ≤ x
              · have hx3 := hx2 hx0
                clear hx2
                have hx4 : x ≤ 65536 := by omega
                go_wp2_with fail
                go_round
                case rel => exact ⟨i + 2 + x.toNat + 1 + 1, by go_num, by omega, by omega⟩
                case measure => simp [intOf]; omega
              · clear hx2
                have hx5 : x < 0 := by omega
                go_wp2_with fail
                all_goals exact ⟨⟨i + 1, by go_num, by omega, by omega⟩, by simp [intOf]; omega⟩
          · go_wp2_with fail
            go_ret
            exact ⟨⟨i, rfl, by omega, hlt⟩, rfl⟩
        · go_wp2_with fail
          go_round
          case rel => exact ⟨i + 2, by go_num, by omega, by omega⟩
          case measure => simp [intOf]; omega
      · go_wp2_with fail
        go_ret
        exact ⟨⟨s.size - 1, ret_i (by omega), by omega, by omega⟩, rfl⟩
end Go.Proofs.Qxb6603847a.S
