import Derived.Test.Qxb6613381aWalks0
import Derived.Test.Qxb6613381aShelf
import Derived.WalkSpells
namespace Go.Proofs.Qxb6613381a.W
open Go.RowKit

theorem take_snoc (s : ByteArray) (k : Nat) (h : k < s.size) : s.data.toList.take (k + 1) = s.data.toList.take k ++ [s[k]] := by
  rw [List.take_succ_eq_append_getElem (by simpa using h)]; rfl

def punB (c : UInt8) : Bool := decide (0 ≤ Lib.indexByte [46, 95, 45] c)

theorem okB_iff (c : UInt8) : Plain.okB c = (alB (c.toNat : Int) || punB c) := by
  revert c
  suffices h : ∀ n : Fin 256, Plain.okB (UInt8.ofNat n.val) = (alB ((UInt8.ofNat n.val).toNat : Int) || punB (UInt8.ofNat n.val)) by
    intro c
    have := h ⟨c.toNat, c.toNat_lt⟩
    simpa using this
  decide +kernel

theorem cut_one (s : ByteArray) (k : Nat) (h : k < s.size) : s.extract k (k + 1) = ⟨#[s[k]]⟩ := by
  apply ByteArray.ext
  apply Array.ext'
  have h' : k < s.data.toList.length := by simpa using h
  rw [ByteArray.data_extract, Array.toList_extract, List.extract_eq_take_drop]
  rw [List.drop_eq_getElem_cons h']
  simp
  rfl

theorem contains_at (s : ByteArray) (k : Nat) (h : k < s.size) (w : World) :
    Calls Try.prog 18 #[.string ⟨#[46, 95, 45]⟩, .string (s.extract k (k + 1))] w fun e w' => e = .returned (.bool (punB s[k])) ∧ w' = w := by
  rw [cut_one s k h]
  exact Try.strings_Contains_one _ _ _

def allK (s : ByteArray) (k : Nat) : Bool := (s.data.toList.take k).all Plain.okB
def allOk (s : ByteArray) : Bool := s.data.toList.all Plain.okB
theorem allK_zero (s : ByteArray) : allK s 0 = true := rfl
theorem allK_end (s : ByteArray) (k : Nat) (h : ¬ k < s.size) (ha : allK s k = true) : allOk s = true := by
  unfold allK at ha; unfold allOk
  rw [List.take_of_length_le (by simp; omega)] at ha; exact ha
theorem all_snoc (s : ByteArray) (k : Nat) (h : k < s.size) (ha : allK s k = true) (hb : Plain.okB s[k] = true) : allK s (k + 1) = true := by
  unfold allK at *
  rw [take_snoc s k h, List.all_append, ha]; simp [hb]
theorem all_stop (s : ByteArray) (k : Nat) (h : k < s.size) (hb : Plain.okB s[k] = false) : allOk s = false := by
  unfold allOk
  rw [List.all_eq_false]
  exact ⟨s[k], Array.mem_toList_iff.2 (Array.getElem_mem (xs := s.data) h), by simp [hb]⟩

set_option maxHeartbeats 400000 in
theorem madeOf_any (s : ByteArray) (w : World) (hs : s.size ≤ 1048600) :
    Calls Try.prog 15 #[.string s, .string ⟨#[46, 95, 45]⟩] w fun e w' => e = .returned (.bool (allOk s)) ∧ w' = w := by
  go_enter Try.func15, Try.ntmps15
  go_wp2_with fail
  go_loop [8] (fun i => ∃ k : Nat, k ≤ s.size ∧ i = .int .i64 k ∧ allK s k = true) (fun i => s.size - (intOf i).toNat)
  case atStart => exact ⟨0, Nat.zero_le _, rfl, rfl⟩
  case round =>
    obtain ⟨k, hk, rfl, hall⟩ := hrel
    have H : Hid (allK s k = true) := hall
    clear hall
    by_cases hlt : k < s.size
    · have c1 : (k : Int) + 1 ≤ s.size := by omega
      go_wp2_with (first | (go_at_call 17; refine (isAlnum_any _ _).mono ?_; rintro e w' ⟨rfl, rfl⟩) | (go_at_call 18; refine (contains_at s k hlt _).mono ?_; rintro e w' ⟨rfl, rfl⟩))
      · have h1 : alB ↑s[k].toNat = true := by assumption
        go_round
        case rel => exact ⟨k + 1, by omega, by go_num, all_snoc s k hlt H.out (by rw [okB_iff, h1]; rfl)⟩
        case measure => simp [intOf]; omega
      · have h1 : ¬ alB ↑s[k].toNat = true := by assumption
        have h2 : (!punB s[k]) = true := by assumption
        go_ret
        exact ⟨ret_b (all_stop s k hlt (by rw [okB_iff, Bool.eq_false_iff.2 h1]; simpa using h2)).symm, rfl⟩
      · have h2 : (!punB s[k]) = false := by assumption
        go_round
        case rel => exact ⟨k + 1, by omega, by go_num, all_snoc s k hlt H.out (by rw [okB_iff, show punB s[k] = true by simpa using h2]; simp)⟩
        case measure => simp [intOf]; omega
    · have H2 : Hid (allOk s = true) := allK_end s k hlt H.out
      go_wp2
      go_ret
      exact ⟨ret_b H2.out.symm, rfl⟩

theorem drewN_cell (w : World) (n : Nat) (a : Addr) : (w.drewN n).cell? a = w.cell? a := rfl

def typA (s : ByteArray) : ByteArray := ⟨(Plain.typ s.data.toList).toArray⟩
def idA (s : ByteArray) : ByteArray := ⟨(Plain.idn s.data.toList).toArray⟩
def okA (s : ByteArray) : Bool := Plain.okS s.data.toList
def entA (s : ByteArray) : Bool := Plain.ent s.data.toList

theorem split_no (s : ByteArray) (h : Plain.okS s.data.toList = false) : ByteArray.mk #[] = typA s ∧ ByteArray.mk #[] = idA s ∧ false = okA s := by
  unfold typA idA okA Plain.typ Plain.idn
  unfold Plain.okS at *
  rw [h]; simp
theorem split_yes (s : ByteArray) (h : Plain.okS s.data.toList = true) : ByteArray.mk (Lib.cut s.data.toList [58]).1.toArray = typA s ∧ ByteArray.mk (Lib.cut s.data.toList [58]).2.1.toArray = idA s ∧ true = okA s := by
  unfold typA idA okA Plain.typ Plain.idn
  unfold Plain.okS at *
  rw [h]; simp
theorem ret_three {a b a' b' : ByteArray} {c c' : Bool} (h : a = a' ∧ b = b' ∧ c = c') : Ending.returned (.tuple #[.string a, .string b, .bool c]) = .returned (.tuple #[.string a', .string b', .bool c']) := by
  rw [h.1, h.2.1, h.2.2]

set_option maxHeartbeats 400000 in
theorem split_any (s : ByteArray) (m : Int) (w : World) (hs : s.size ≤ 1048600) (hm : w.cell? ⟨0, 0, none⟩ = some (.int .i64 m)) :
    Calls Try.prog 7 #[.string s] w fun e w' => e = .returned (.tuple #[.string (typA s), .string (idA s), .bool (okA s)]) ∧ ∃ n, w' = w.drewN n := by
  go_enter Try.func7, Try.ntmps7
  go_wp2_with (go_at_call 13; refine (Try.strings_Cut _ _ m _ (by omega) hm).mono ?_; rintro e w' ⟨rfl, n, rfl⟩)
  · have h1 : (Lib.cut s.data.toList [58]).fst = [] := by assumption
    go_ret3
    exact ⟨ret_three (split_no s (by unfold Plain.okS; rw [h1]; simp)), _, rfl⟩
  · have h1 : (Lib.cut s.data.toList [58]).fst.isEmpty = true ∨ (Lib.cut s.data.toList [58]).snd.fst.isEmpty = true := by assumption
    go_ret3
    exact ⟨ret_three (split_no s (by unfold Plain.okS; rcases h1 with h | h <;> rw [h] <;> simp)), _, rfl⟩
  · have h0 : (Lib.cut s.data.toList [58]).snd.snd = true := by assumption
    have h1 : (Lib.cut s.data.toList [58]).fst.isEmpty = false ∧ (Lib.cut s.data.toList [58]).snd.fst.isEmpty = false := by assumption
    go_ret3
    exact ⟨ret_three (split_yes s (by unfold Plain.okS; rw [h0, h1.1, h1.2]; rfl)), _, rfl⟩
  · have h0 : ¬ (Lib.cut s.data.toList [58]).snd.snd = true := by assumption
    go_ret3
    exact ⟨ret_three (split_no s (by unfold Plain.okS; rw [Bool.eq_false_iff.2 h0]; rfl)), _, rfl⟩

theorem typA_size (s : ByteArray) : (typA s).size ≤ s.size := by
  have := Plain.typ_le s.data.toList
  show (Plain.typ s.data.toList).toArray.size ≤ s.data.size
  simpa using this

theorem idA_size (s : ByteArray) : (idA s).size ≤ s.size := by
  have := Plain.idn_le s.data.toList
  show (Plain.idn s.data.toList).toArray.size ≤ s.data.size
  simpa using this

theorem ent_no (s : ByteArray) (h : okA s = false) : false = entA s := by
  unfold okA at h; unfold entA Plain.ent; rw [h]; rfl
theorem ent_yes (s : ByteArray) (h : okA s = true) : allOk (typA s) = entA s := by
  unfold okA at h; unfold entA Plain.ent allOk typA; rw [h]; rfl

set_option maxHeartbeats 400000 in
theorem isEnt_any (s : ByteArray) (m : Int) (w : World) (hs : s.size ≤ 1048600) (hm : w.cell? ⟨0, 0, none⟩ = some (.int .i64 m)) :
    Calls Try.prog 12 #[.string s] w fun e w' => e = .returned (.bool (entA s)) ∧ ∃ n, w' = w.drewN n := by
  have hz := typA_size s
  cases hok : okA s
  · have H : Hid (false = entA s) := ent_no s hok
    go_enter Try.func12, Try.ntmps12
    go_wp2_with (first | (go_at_call 7; refine (split_any _ m _ (by omega) hm).mono ?_; rintro e w' ⟨rfl, n, rfl⟩) | (go_at_call 15; refine (madeOf_any _ _ (by omega)).mono ?_; rintro e w' ⟨rfl, rfl⟩))
    go_ret
    exact ⟨ret_b H.out, _, rfl⟩
  · have H : Hid (allOk (typA s) = entA s) := ent_yes s hok
    go_enter Try.func12, Try.ntmps12
    go_wp2_with (first | (go_at_call 7; refine (split_any _ m _ (by omega) hm).mono ?_; rintro e w' ⟨rfl, n, rfl⟩) | (go_at_call 15; refine (madeOf_any _ _ (by omega)).mono ?_; rintro e w' ⟨rfl, rfl⟩))
    go_ret
    exact ⟨ret_b H.out, _, rfl⟩

set_option maxHeartbeats 400000 in
theorem zz_any (s : ByteArray) (m : Int) (w : World) (hs : s.size ≤ 1048600) (hm : w.cell? ⟨0, 0, none⟩ = some (.int .i64 m)) :
    Calls Try.prog 6 #[.string s] w fun e w' => e = .returned (.bool (entA s)) ∧ ∃ n, w' = w.drewN n := by
  go_enter Try.func6, Try.ntmps6
  go_wp2_with (go_at_call 12; refine (isEnt_any _ m _ hs hm).mono ?_; rintro e w' ⟨rfl, n, rfl⟩)
  go_ret
  exact ⟨rfl, _, rfl⟩

theorem app_list (a b : ByteArray) : (a ++ b).data.toList = a.data.toList ++ b.data.toList := by simp
theorem lawA1 (s : ByteArray) : entA s = (okA s && entA (typA s ++ ⟨#[58, 120]⟩)) := by
  have := Plain.law1 s.data.toList
  unfold entA okA
  rw [app_list]
  exact this
theorem lawA2 (s : ByteArray) (h : okA s = true) : typA s ++ ⟨#[58]⟩ ++ idA s = s := by
  have := Plain.law2 s.data.toList h
  apply ByteArray.ext
  apply Array.ext'
  rw [app_list, app_list]
  exact this
theorem lawA3 (s : ByteArray) : entA (⟨#[120, 58]⟩ ++ s) = !s.toList.isEmpty := by
  have := Plain.law3 s.data.toList
  rw [ByteArray.toList_eq]
  unfold entA
  rw [app_list]
  exact this
theorem size_app (a b : ByteArray) : (a ++ b).size = a.size + b.size := by simp

set_option maxHeartbeats 400000 in
theorem main_no (s : ByteArray) (m : Int) (w : World) (hm : w.cell? ⟨0, 0, none⟩ = some (.int .i64 m)) (hs : s.size ≤ 1048576) (hok : okA s = false) :
    Calls Try.prog 3 #[.string s] w fun e w' => e = .returned (.bool true) ∧ ∃ n, w' = w.drewN n := by
  have he : entA s = false := by rw [lawA1, hok]; rfl
  have hb : (s.size : Int) ≤ 1048576 := by omega
  have hz2 : (ByteArray.mk #[120, 58] ++ s).size ≤ 1048600 := by rw [size_app]; have : (ByteArray.mk #[120, 58]).size = 2 := rfl; omega
  go_enter Try.func3, Try.ntmps3
  go_wp2_with (go_at_call 5; refine (zzBytes_any _ _).mono ?_; rintro e w' ⟨rfl, rfl⟩)
  refine (zz_any s m _ (by omega) (by exact hm)).mono ?_
  rintro e w1 ⟨rfl, n1, rfl⟩
  go_wp2_with fail
  refine (split_any s m _ (by omega) (by exact hm)).mono ?_
  rintro e w2 ⟨rfl, n2, rfl⟩
  go_wp2_with fail
  refine (zz_any _ m _ hz2 (by exact hm)).mono ?_
  rintro e w3 ⟨rfl, n3, rfl⟩
  go_wp2_with fail
  go_ret
  exact ⟨ret_b (by rw [lawA3]; simp), _, rfl⟩

set_option maxHeartbeats 400000 in
theorem main_yes (s : ByteArray) (m : Int) (w : World) (hm : w.cell? ⟨0, 0, none⟩ = some (.int .i64 m)) (hs : s.size ≤ 1048576) (hok : okA s = true) (b : Bool) (he : entA s = b) :
    Calls Try.prog 3 #[.string s] w fun e w' => e = .returned (.bool true) ∧ ∃ n, w' = w.drewN n := by
  have he2 : entA (typA s ++ ⟨#[58, 120]⟩) = b := by have := lawA1 s; rw [hok, he] at this; exact this.symm
  have hb : (s.size : Int) ≤ 1048576 := by omega
  have hz := typA_size s
  have hzi := idA_size s
  have hj := lawA2 s hok
  have hz1 : (typA s ++ ⟨#[58, 120]⟩).size ≤ 1048600 := by rw [size_app]; have : (ByteArray.mk #[58, 120]).size = 2 := rfl; omega
  have hz2 : (ByteArray.mk #[120, 58] ++ s).size ≤ 1048600 := by rw [size_app]; have : (ByteArray.mk #[120, 58]).size = 2 := rfl; omega
  cases b
  all_goals
    go_enter Try.func3, Try.ntmps3
    go_wp2_with (go_at_call 5; refine (zzBytes_any _ _).mono ?_; rintro e w' ⟨rfl, rfl⟩)
    refine (zz_any s m _ (by omega) (by exact hm)).mono ?_
    rintro e w1 ⟨rfl, n1, rfl⟩
    go_wp2_with fail
    refine (split_any s m _ (by omega) (by exact hm)).mono ?_
    rintro e w2 ⟨rfl, n2, rfl⟩
    go_wp2_with fail
    refine (zz_any _ m _ hz1 (by exact hm)).mono ?_
    rintro e w3 ⟨rfl, n3, rfl⟩
    go_wp2_with fail
    refine (zz_any _ m _ hz2 (by exact hm)).mono ?_
    rintro e w3 ⟨rfl, n4, rfl⟩
    go_wp2_with fail
    go_ret
    exact ⟨ret_b (by rw [lawA3]; simp), _, rfl⟩

theorem main_any (s : ByteArray) (m : Int) (w : World) (hm : w.cell? ⟨0, 0, none⟩ = some (.int .i64 m)) :
    Calls Try.prog 3 #[.string s] w fun e w' => e = .returned (.bool true) ∧ ∃ n, w' = w.drewN n := by
  by_cases hs : s.size ≤ 1048576
  · cases hok : okA s
    · exact main_no s m w hm hs hok
    · exact main_yes s m w hm hs hok _ rfl
  · go_enter Try.func3, Try.ntmps3
    go_wp2_with (go_at_call 5; refine (zzBytes_any _ _).mono ?_; rintro e w' ⟨rfl, rfl⟩)
    go_ret
    exact ⟨rfl, 0, rfl⟩
end Go.Proofs.Qxb6613381a.W
