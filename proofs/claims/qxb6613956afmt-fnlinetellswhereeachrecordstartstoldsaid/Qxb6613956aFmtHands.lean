import Derived.Test.Qxb6613956aFmtPlain1
namespace Go.Proofs.Qxb6613956aFmt.W
open Go.RowKit

theorem ret_b {a b : Bool} (h : a = b) : Ending.returned (.bool a) = .returned (.bool b) := by rw [h]
theorem ret_i {a b : Int} (h : a = b) : Ending.returned (.int .i64 a) = .returned (.int .i64 b) := by rw [h]

set_option maxHeartbeats 400000 in
theorem bytes21 (s : ByteArray) (w : World) :
    Calls Tryf.prog 21 #[.string s] w fun e w' => e = .returned (.bool (decide (s.size ≤ 1048576))) ∧ w' = w := by
  by_cases h : s.size ≤ 1048576
  · go_enter Tryf.func21, Tryf.ntmps21
    go_wp2
    go_ret
    exact ⟨ret_b (by simp [h]), rfl⟩
  · go_enter Tryf.func21, Tryf.ntmps21
    go_wp2
    go_ret
    exact ⟨ret_b (by simp [h]), rfl⟩

/-- no line feed from place p up to place k -/
def noLF (l : List UInt8) (p k : Nat) : Prop := (10 : UInt8) ∉ (l.drop p).take (k - p)
theorem noLF_self (l : List UInt8) (p : Nat) : noLF l p p := by simp [noLF]
theorem noLF_succ {s : ByteArray} {p k : Nat} (h : noLF s.data.toList p k) (hp : p ≤ k) (hk : k < s.size) (hc : ¬ (s[k].toNat : Int) = 10) : noLF s.data.toList p (k + 1) := by
  unfold noLF at *
  have hl : k < s.data.toList.length := by rw [← Lib.size_eq]; exact hk
  rw [show k + 1 - p = (k - p) + 1 by omega, List.take_add_one]
  simp only [List.mem_append, not_or]
  refine ⟨h, ?_⟩
  rw [List.getElem?_drop, show p + (k - p) = k by omega, List.getElem?_eq_getElem hl]
  simp
  intro e
  apply hc
  have : s[k] = 10 := e.symm
  rw [this]; rfl
theorem end_hit {s : ByteArray} {p k : Nat} (h : noLF s.data.toList p k) (hp : p ≤ k) (hk : k < s.size) (hc : (s[k].toNat : Int) = 10) : p + (fl (s.data.toList.drop p)).length = k + 1 := by
  unfold noLF at h
  have hl : k < s.data.toList.length := by rw [← Lib.size_eq]; exact hk
  have e : s.data.toList.drop p = (s.data.toList.drop p).take (k - p) ++ [10] ++ s.data.toList.drop (k + 1) := by
    conv => lhs; rw [← List.take_append_drop (k - p) (s.data.toList.drop p)]
    rw [List.drop_drop, show p + (k - p) = k by omega, List.drop_eq_getElem_cons hl, List.append_assoc]
    congr 1
    have : s.data.toList[k] = 10 := by
      apply UInt8.toNat_inj.1
      have h2 : (s[k].toNat : Int) = ((10 : UInt8).toNat : Int) := hc
      exact Int.ofNat.inj h2
    rw [this]; rfl
  rw [e, fl_hit _ _ h]
  simp [List.length_take, List.length_drop]
  have := Lib.size_eq s
  omega
theorem end_miss {s : ByteArray} {p k : Nat} (h : noLF s.data.toList p k) (hp : p ≤ s.size) (hk : ¬ k < s.size) : p + (fl (s.data.toList.drop p)).length = s.size := by
  unfold noLF at h
  rw [List.take_of_length_le (by rw [List.length_drop, ← Lib.size_eq]; omega)] at h
  rw [fl_none _ h, List.length_drop, ← Lib.size_eq]
  omega

/-- just behind the line that holds place p -/
def lend (s : ByteArray) (p : Nat) : Nat := p + (fl (s.data.toList.drop p)).length

set_option maxHeartbeats 400000 in
theorem lineEnd_any (s : ByteArray) (p : Nat) (w : World) (hs : s.size ≤ 1048600) (hp : p ≤ s.size) :
    Calls Tryf.prog 22 #[.string s, .int .i64 p] w fun e w' => e = .returned (.int .i64 (lend s p : Int)) ∧ w' = w := by
  go_enter Tryf.func22, Tryf.ntmps22
  go_wp2
  go_loop [1] (fun i => ∃ k : Nat, p ≤ k ∧ k ≤ s.size ∧ i = .int .i64 k ∧ noLF s.data.toList p k) (fun i => s.size - (intOf i).toNat)
  case atStart => exact ⟨p, Nat.le_refl _, hp, rfl, noLF_self _ _⟩
  case round =>
    obtain ⟨k, hpk, hk, rfl, hno⟩ := hrel
    have HN := hid hno
    clear hno
    by_cases hlt : k < s.size
    · by_cases hc : (s[k].toNat : Int) = 10
      · have hc2 : ((s[k].toNat : Int) == 10) = true := by simp [hc]
        have HC := hid hc
        clear hc
        go_wp2
        go_ret
        exact ⟨ret_i (by have := end_hit HN.out hpk hlt HC.out; unfold lend; omega), rfl⟩
      · have hc2 : ((s[k].toNat : Int) == 10) = false := by simp [hc]
        have HC := hid hc
        clear hc
        go_wp2
        go_round
        case rel => exact ⟨k + 1, by omega, by omega, by go_num, noLF_succ HN.out hpk hlt HC.out⟩
        case measure => simp [intOf]; omega
    · go_wp2
      go_ret
      exact ⟨ret_i (by have := end_miss HN.out hp hlt; unfold lend; omega), rfl⟩

theorem nil_eql (w : World) : (binOp .eql 43 (.slice none 0 0) (.slice none 0 0)).run Tryf.prog w = .ok (.bool true) w := by kernel_rfl

theorem nums_str (l : List UInt8) : strOfNums (l.map fun b => (b.toNat : Int)) = ⟨l.toArray⟩ := by
  apply ByteArray.ext
  apply Array.ext'
  have := bytesOf_nums l
  unfold Lib.bytesOf at this
  unfold strOfNums
  simpa using this

theorem conv_line {w : World} {b : Nat} {v : Value} {L : List UInt8} (h : LineIn w b v L) (h0 : 0 < L.length) (n : Nat) : (convert 43 9 v).run Tryf.prog (w.drewN n) = .ok (.string ⟨L.toArray⟩) (w.drewN n) := by
  obtain ⟨a, c, rfl, _, _, hc⟩ := h
  obtain ⟨o, rfl, hd⟩ := hc h0
  rw [← nums_str]
  exact run_convert_bytes_arg (P := Tryf.prog) (w.drewN n) 43 5 Tryf.underlying43 Tryf.underlying5 b o L.length c _ (by simp) (fun i hi => by rw [nums_getD L i hi]; exact hd i hi) 9 Tryf.underlying9

theorem ext_line (s : ByteArray) (p : Nat) : s.extract p (lend s p) = ⟨(fl (s.data.toList.drop p)).toArray⟩ := by
  apply ByteArray.ext
  apply Array.ext'
  rw [Lib.extract_data]
  unfold lend
  rw [show p + (fl (s.data.toList.drop p)).length - p = (fl (s.data.toList.drop p)).length by omega, fl_take]

set_option maxRecDepth 100000 in
set_option maxHeartbeats 1000000 in
theorem hands_any (s : ByteArray) (ea fa : Addr) (w : World) (he : Errs w w.heap.size ea fa) :
    Calls Tryf.prog 6 #[.string s] w fun e w' => e = .returned (.bool true) ∧ Below w.heap.size w w' := by
  by_cases hs : s.size ≤ 1048576
  · have hs2 : (s.size : Int) ≤ 1048576 := by omega
    go_enter Tryf.func6, Tryf.ntmps6
    go_wp2_with (first | (go_at_call 21; go_fit (bytes21 s _); rintro e w' ⟨rfl, rfl⟩) | (go_at_call 12; go_fit (newReader_any s _ (by omega)); rintro e w1 ⟨bc, bb, bf, bs, rfl, hcr, hu⟩))
    have he1 := he.upd hu (by simp)
    have hb0 : Below w'.heap.size w' w1 := hu.below (Nat.le_refl _) (by simp)
    go_loopg [4] (s.size + 1) (fun k t4 wr => ∃ (p : Nat) (ln : Int) (long : Value), t4 = .int .i64 p ∧ p ≤ s.size ∧ s.size - p < k ∧ 0 ≤ ln ∧ ln ≤ p ∧ CR wr w'.heap.size bc bb bf bs s (s.data.toList.drop p) ln 0 0 long (.slice none 0 0) (.slice none 0 0) (.slice none 0 0) ∧ Errs wr w'.heap.size ea fa ∧ Below w'.heap.size w' wr)
    case atStart => exact ⟨0, 0, _, rfl, Nat.zero_le _, by omega, by omega, by omega, by simpa using hcr, he1, hb0⟩
    case round =>
      clear hcr hu he1 hb0
      obtain ⟨p, ln, long, rfl, hp, hk, hl0, hl1, hcr, he1, hb1⟩ := hrel
      by_cases hlt : p < s.size
      · have hT : s.data.toList.drop p ≠ [] := by
          intro e
          have := congrArg List.length e
          rw [List.length_drop, ← Lib.size_eq] at this
          simp at this; omega
        have hfp := fl_pos _ hT
        have hfl := fl_le (s.data.toList.drop p)
        rw [List.length_drop, ← Lib.size_eq] at hfl
        have hq : p < lend s p ∧ lend s p ≤ s.size := by unfold lend; omega
        have hq1 := hq.1
        have hq2 := hq.2
        have b1 : (p : Int) ≤ (lend s p : Int) := by omega
        have b2 : (lend s p : Int) ≤ s.size := by omega
        have hex := ext_line s p
        have HX := hid hex
        go_wp2_with fail
        go_fit (lineEnd_any s p _ (by omega) hp)
        rintro e wx ⟨rfl, rfl⟩
        go_wp2_with fail
        go_fit (plain_some _ bc bb bf bs s _ ln 0 0 long _ _ _ ea fa _ hcr he1 hT hl0 (by omega))
        rintro e w3 ⟨v, long', b, rfl, h1, h2, h3⟩
        have hcv := conv_line h1 hfp
        go_wp2
        go_quiet (fail)
        go_wp2
        have hd : (s.data.toList.drop p).drop (fl (s.data.toList.drop p)).length = s.data.toList.drop (lend s p) := by rw [List.drop_drop]; rfl
        go_roundg (gk - 1)
        case measure => omega
        case rel => exact ⟨lend s p, ln + 1, long', rfl, hq2, by omega, by omega, by omega, by rw [← hd]; exact h2.drewN _, (he1.upd h3 hcr.sub).upd ((Upd.refl [] _).drewN _) (by simp), hb1.trans ((h3.drewN _).below he1.sz hcr.sub)⟩
      · have hT : s.data.toList.drop p = [] := List.drop_eq_nil_of_le (by rw [← Lib.size_eq]; omega)
        rw [hT] at hcr
        go_wp2_with fail
        go_fit (plain_nil _ bc bb bf bs s ln 0 0 long _ _ _ ea fa _ hcr he1)
        rintro e w3 ⟨rfl, h2, h3⟩
        have hnil : ∀ w, (binOp .eql 43 (.slice none 0 0) (.slice none 0 0)).run Tryf.prog w = .ok (.bool true) w := fun w => nil_eql w
        go_wp2
        go_ret
        exact ⟨rfl, hb1.trans (h3.below he1.sz (fun k hk => hcr.sub k (by simp at hk ⊢; omega)))⟩
  · go_enter Tryf.func6, Tryf.ntmps6
    go_wp2_with (first | (go_at_call 21; go_fit (bytes21 s _); rintro e w' ⟨rfl, rfl⟩))
    go_ret
    exact ⟨rfl, Below.refl _ _⟩
end Go.Proofs.Qxb6613956aFmt.W
