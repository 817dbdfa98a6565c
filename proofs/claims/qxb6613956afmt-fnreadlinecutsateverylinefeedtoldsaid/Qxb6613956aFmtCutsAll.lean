import Derived.Test.Qxb6613956aFmtCuts
namespace Go.Proofs.Qxb6613956aFmt.W
open Go.RowKit

theorem bytes24_no (s t : ByteArray) (w : World) (h : ¬ (s.size ≤ 1048576 ∧ t.size ≤ 1048576 ∧ s.size + t.size ≤ 1048576)) :
    Calls Tryf.prog 24 #[.string s, .string t] w fun e w' => e = .returned (.bool false) ∧ w' = w := by
  refine (bytes24 s t w).mono ?_
  rintro e w' ⟨rfl, rfl⟩
  exact ⟨ret_b (decide_eq_false h), rfl⟩
theorem bytes24_ok (s t : ByteArray) (w : World) (h : s.size ≤ 1048576 ∧ t.size ≤ 1048576 ∧ s.size + t.size ≤ 1048576) :
    Calls Tryf.prog 24 #[.string s, .string t] w fun e w' => e = .returned (.bool true) ∧ w' = w := by
  refine (bytes24 s t w).mono ?_
  rintro e w' ⟨rfl, rfl⟩
  exact ⟨ret_b (decide_eq_true h), rfl⟩

set_option maxRecDepth 100000 in
set_option maxHeartbeats 1000000 in
theorem cuts_all (s t : ByteArray) (ea fa : Addr) (w : World) (he : Errs w w.heap.size ea fa) :
    Calls Tryf.prog 7 #[.string s, .string t] w fun e w' => e = .returned (.bool true) ∧ Below w.heap.size w w' := by
  by_cases hb : s.size ≤ 1048576 ∧ t.size ≤ 1048576 ∧ s.size + t.size ≤ 1048576
  · by_cases hs : s.size ≤ 524288
    · by_cases ht : t.size ≤ 524288
      · exact cuts_any s t ea fa w he hs ht
      · have hq := bytes24_ok s t w hb
        have hs2 : (s.size : Int) ≤ 524288 := by omega
        have ht2 : (524288 : Int) < t.size := by omega
        clear hs ht hb he
        go_enter Tryf.func7, Tryf.ntmps7
        go_wp2_with (first | (go_at_call 24; go_fit hq; rintro e w' ⟨rfl, rfl⟩; clear hq))
        go_ret
        exact ⟨rfl, Below.refl _ _⟩
    · have hq := bytes24_ok s t w hb
      have hs2 : (524288 : Int) < s.size := by omega
      clear hs hb he
      go_enter Tryf.func7, Tryf.ntmps7
      go_wp2_with (first | (go_at_call 24; go_fit hq; rintro e w' ⟨rfl, rfl⟩; clear hq))
      go_ret
      exact ⟨rfl, Below.refl _ _⟩
  · have hq := bytes24_no s t w hb
    clear hb he
    go_enter Tryf.func7, Tryf.ntmps7
    go_wp2_with (first | (go_at_call 24; go_fit hq; rintro e w' ⟨rfl, rfl⟩; clear hq))
    go_ret
    exact ⟨rfl, Below.refl _ _⟩
end Go.Proofs.Qxb6613956aFmt.W
