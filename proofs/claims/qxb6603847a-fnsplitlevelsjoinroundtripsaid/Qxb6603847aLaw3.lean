import Derived.Test.Qxb6603847aLaw2
namespace Go.Proofs.Qxb6603847a.S
open Go.RowKit

theorem own_form {w : World} {B e size : Nat} {v : Value} {n : Nat} {xs : List Value} (h : w.ownsRow B e size v n xs) : ∃ p c, v = .slice p n c := by
  rcases h.2 with ⟨rfl, rfl⟩ | ⟨g, cap, cur, rfl, _⟩
  · exact ⟨none, 0, rfl⟩
  · exact ⟨_, cap, rfl⟩
theorem fit0 {P : List (List UInt8)} {j : Nat} {A : ByteArray} {N : Nat} (hlt : j < P.length) (hj : j = 0) (hA : A = ⟨(P[j]).toArray⟩) (hN : (W P).flatten.length = N) : (pre P j).length + A.size ≤ N := by
  subst hj
  have h := pre_le P 1
  rw [pre_succ (by rw [W_length]; exact hlt), W_zero P hlt, List.length_append, hN] at h
  subst hA
  exact h
theorem fit1 {P : List (List UInt8)} {j : Nat} {A : ByteArray} {N : Nat} (hlt : j < P.length) (hj : ¬ j = 0) (hA : A = ⟨(P[j]).toArray⟩) (hN : (W P).flatten.length = N) : (pre P j).length + 1 + A.size ≤ N := by
  obtain ⟨k, rfl⟩ : ∃ k, j = k + 1 := ⟨j - 1, by omega⟩
  have h := pre_le P (k + 1 + 1)
  rw [pre_succ (by rw [W_length]; exact hlt), W_succ P k hlt, List.length_append, List.length_cons, hN] at h
  subst hA
  have e : (⟨(P[k + 1]).toArray⟩ : ByteArray).size = (P[k + 1]).length := rfl
  rw [e]
  omega
theorem JJ.one {w1 wr w4 : World} {P : List (List UInt8)} {v v' : Value} {j : Nat} {A : ByteArray} (h : JJ w1 wr P v (pre P j)) (hlt : j < P.length) (hj : j = 0) (hA : A = ⟨(P[j]).toArray⟩)
    (ho : w4.ownsRow w1.heap.size 5 1 v' ((pre P j).length + A.size) (Lib.strCells ⟨(pre P j).toArray⟩ ++ Lib.strCells A)) (hg : wr.grownBy w4 v.ownBlock) : JJ w1 w4 P v' (pre P (j + 1)) := by
  subst hj hA
  rw [pre_succ (by rw [W_length]; exact hlt), W_zero P hlt]
  exact h.add ho hg
theorem JJ.slash {w1 wr w3 : World} {P : List (List UInt8)} {v v' : Value} {T : List UInt8} {o : Obj} (h : JJ w1 wr P v T)
    (ho : w3.ownsRow w1.heap.size 5 1 v' (T.length + 1) (Lib.strCells ⟨T.toArray⟩ ++ [.int .u8 47])) (hg : (wr.alloc o).grownBy w3 v.ownBlock) : JJ w1 w3 P v' (T ++ [47]) := by
  refine { ow := ?_, be := (h.be.alloc h.be.size o).grown hg (by have := h.be.size; simp; omega) (fun k hk => own_ge h.ow k hk) }
  rw [strCells_app, List.length_append]
  exact ho
theorem JJ.two {w1 w3 w4 : World} {P : List (List UInt8)} {v v' : Value} {j : Nat} {A : ByteArray} (h : JJ w1 w3 P v (pre P j ++ [47])) (hlt : j < P.length) (hj : ¬ j = 0) (hA : A = ⟨(P[j]).toArray⟩)
    (ho : w4.ownsRow w1.heap.size 5 1 v' ((pre P j ++ [47]).length + A.size) (Lib.strCells ⟨(pre P j ++ [47]).toArray⟩ ++ Lib.strCells A)) (hg : w3.grownBy w4 v.ownBlock) : JJ w1 w4 P v' (pre P (j + 1)) := by
  obtain ⟨k, rfl⟩ : ∃ k, j = k + 1 := ⟨j - 1, by omega⟩
  subst hA
  rw [pre_succ (by rw [W_length]; exact hlt), W_succ P k hlt]
  have := h.add ho hg
  rw [List.append_assoc] at this
  exact this

theorem nums_str (l : List UInt8) : strOfNums (l.map fun b => (b.toNat : Int)) = ⟨l.toArray⟩ := by
  apply ByteArray.ext
  apply Array.ext'
  rw [strOfNums_data, List.map_map]
  conv => rhs; rw [← List.map_id l]
  apply List.map_congr_left
  intro b _
  simp
theorem JJ.conv {w1 wr : World} {P : List (List UInt8)} {v : Value} {j : Nat} {s : ByteArray} (h : JJ w1 wr P v (pre P j)) (hj : ¬ j < P.length) (hs : (W P).flatten = s.data.toList) :
    (convert 25 9 v).run Try.prog wr = .ok (.string s) wr := by
  have ho := h.ow
  rw [pre_all hj, hs] at ho
  have e : s = ⟨s.data.toList.toArray⟩ := rfl
  by_cases h0 : s.size = 0
  · have hT : s.data.toList = [] := List.eq_nil_of_length_eq_zero (by rw [← Lib.size_eq]; exact h0)
    have es : s = strOfNums [] := by
      apply ByteArray.ext
      apply Array.ext'
      rw [hT, strOfNums_data]; rfl
    rw [hT] at ho
    rcases ho.2 with ⟨hv, _⟩ | ⟨g, cap, cur, hv, _⟩
    · rw [hv]
      have := run_convert_bytes_nil (P := Try.prog) wr 25 5 Try.underlying25 Try.underlying5 0 0 9 Try.underlying9
      rw [this, es]; rfl
    · rw [hv, es]
      exact run_convert_bytes_arg (P := Try.prog) wr 25 5 Try.underlying25 Try.underlying5 g 0 _ cap [] rfl (fun k hk => by simp at hk) 9 Try.underlying9
  · obtain ⟨g, c, rfl, _, _⟩ := ho.form (by rw [← Lib.size_eq]; omega)
    have hc := ho.cells (g := g) rfl
    conv => rhs; rw [e, ← nums_str]
    refine run_convert_bytes_arg (P := Try.prog) wr 25 5 Try.underlying25 Try.underlying5 g 0 _ c _ (by simp) (fun k hk => ?_) 9 Try.underlying9
    have := hc k (.int .u8 (s.data.toList[k]'hk).toNat) (by rw [Lib.strCells, List.getElem?_map, List.getElem?_eq_getElem hk]; rfl)
    rw [show (⟨g, 0, none⟩ : Addr).add k = ⟨g, k, none⟩ by simp [Addr.add, eq_comm]] at this
    rw [Nat.zero_add, this, List.getD_eq_getElem?_getD, List.getElem?_map, List.getElem?_eq_getElem hk]
    rfl

set_option maxRecDepth 100000 in
set_option maxHeartbeats 2000000 in
theorem law_any (s : ByteArray) (m : Int) (w : World) (hm : w.cell? ⟨0, 0, none⟩ = some (.int .i64 m)) :
    Calls Try.prog 3 #[.string s] w fun e w' => e = .returned (.bool true) ∧ Below w.heap.size w w' := by
  by_cases hs : s.size ≤ 65536
  · have hsI : (s.size : Int) ≤ 65536 := by omega
    have hq1 := bytes6_yes s w (by omega)
    have hq2 := zz_any s m w hs hm
    obtain ⟨i0, hi0, hz0, hz1, hz2⟩ := info_parts info5
    go_enter Try.func3, Try.ntmps3
    go_wp2_with (first | (go_at_call 6; go_fit hq1; rintro e w' ⟨rfl, rfl⟩; clear hq1))
    go_fit hq2
    rintro e w1 ⟨v, P, g, c, rfl, hp⟩
    clear hq2
    have hv := hp.form
    subst hv
    have hpos := hp.pos
    have hct := hp.ct
    have hcb : s.data.toList.count 47 ≤ s.size := by rw [Lib.size_eq]; exact List.count_le_length
    generalize hcs : s.data.toList.count 47 = cs at hct hcb
    have HCS := hid hcs
    clear hcs
    have hposI : (0 : Int) < P.length := by omega
    have hpl : (P.length : Int) ≤ 65537 := by omega
    have HP := hid hp
    clear hp
    have hp0 : ((P.length : Int) == 0) = false := by rw [beq_eq_false_iff_ne]; omega
    go_wp2_with fail
    go_loopg [4, 5] (s.size + 1) (fun k t4 t5 wr => ∃ i : Nat, t4 = .int .i64 (cnt s i : Nat) ∧ t5 = .int .i64 i ∧ i ≤ s.size ∧ s.size - i < k ∧ wr = w1)
    case atStart => exact ⟨0, by rw [cnt_zero]; rfl, rfl, by omega, by omega, rfl⟩
    case round =>
      obtain ⟨i, rfl, rfl, hi, hk, hwr⟩ := hrel
      have hwr2 : w1 = wr := hwr.symm
      clear hwr
      subst hwr2
      have hcl := cnt_le s i
      by_cases hlt : i < s.size
      · have hltI : (i : Int) < s.size := by omega
        cases hc : ((s[i].toNat : Int) == 47)
        · go_wp2_with fail
          go_roundg (gk - 1)
          case measure => omega
          case rel => exact ⟨i + 1, by rw [cnt_miss hlt hc], by simp, by omega, by omega, rfl⟩
        · go_wp2_with fail
          go_roundg (gk - 1)
          case measure => omega
          case rel => exact ⟨i + 1, by rw [cnt_hit hlt hc]; simp, by simp, by omega, by omega, rfl⟩
      · rw [cnt_all s i hlt, HCS.out]
        clear hcl
        go_wp2_with fail
        clear hk hlt hi
        have hjn : ((W P).flatten).length = s.size := by rw [HP.out.join, ← Lib.size_eq]
        go_loopg [6, 7] (P.length + 1) (fun k t6 t7 wr => ∃ j : Nat, t7 = .int .i64 j ∧ j ≤ P.length ∧ P.length - j < k ∧ JJ w1 wr P t6 (pre P j))
        case atStart => exact ⟨0, rfl, by omega, by omega, JJ.start _ _⟩
        case round =>
          obtain ⟨j, rfl, hj, hk, hjj⟩ := hrel
          have hpre := pre_le P j
          by_cases hlt : j < P.length
          · have hltI : (j : Int) < P.length := by omega
            have hpre1 := pre_le P (j + 1)
            have d1 : ∀ wx, Below w1.heap.size w1 wx → wx.cell? ⟨g, j, none⟩ = some (.string ⟨(P[j]).toArray⟩) := fun wx hb => (hb.cell (World.block_lt_of_cell? _ _ (HP.out.cells j hlt))).trans (HP.out.cells j hlt)
            obtain ⟨A, hA⟩ : ∃ A : ByteArray, A = ⟨(P[j]).toArray⟩ := ⟨_, rfl⟩
            rw [← hA] at d1
            have HD := hid d1
            have HJ := hid hjj
            have HA := hid hA
            clear d1 hjj hA
            have hbase := HJ.out.be.size
            by_cases hj0 : j = 0
            · have hd : ¬ ((0 : Int) < (j : Int)) := by omega
              have d0 := HD.out wr HJ.out.be
              have hfit : (pre P j).length + A.size ≤ s.size := fit0 hlt hj0 HA.out hjn
              replace hj0 := hid hj0
              go_wp2_with (first | (at_builtin; refine Lib.wpList_append_own_string _ rfl (.tmp 47) (.tmp 51) 25 9 rfl w1.heap.size 5 i0 Try.underlying25 Try.underlying9 hi0 hz0 hz1 hz2 _ (pre P j).length _ rfl HJ.out.ow A rfl (by unfold maxLen; omega) (by omega) (by omega) ?_; intro v4 w4 HO4 HG4 _; obtain ⟨p4, c4, rfl⟩ := own_form HO4))
              go_roundg (gk - 1)
              case measure => omega
              case rel => exact ⟨j + 1, by simp, by omega, by omega, HJ.out.one hlt hj0.out HA.out HO4 HG4⟩
            · have hd : (0 : Int) < (j : Int) := by omega
              have hfit : (pre P j).length + 1 + A.size ≤ s.size := fit1 hlt hj0 HA.out hjn
              go_wp2_with (first | (at_builtin; refine wpList_append_own _ rfl (.tmp 44) (.tmp 45) 25 rfl w1.heap.size 5 i0 (.int .u8 0) 1 1 Try.underlying25 hi0 hz0 hz1 hz2 rfl (by decide) _ (pre P j).length _ rfl (HJ.out.ow.alloc _) ⟨wr.heap.size, 0, none⟩ 1 1 [.int .u8 47] rfl rfl (cell_one_new _ _ _) (by intro u hu; simp at hu; subst hu; rfl) (by unfold maxLen; omega) (by omega) (by simp; omega) ?_; intro v3 w3 HO3 HG3 _; have HJ3 := hid (HJ.out.slash HO3 HG3); have d3 := HD.out w3 HJ3.out.be; obtain ⟨p3, c3, rfl⟩ := own_form HO3) | (at_builtin; refine Lib.wpList_append_own_string _ rfl (.tmp 47) (.tmp 51) 25 9 rfl w1.heap.size 5 i0 Try.underlying25 Try.underlying9 hi0 hz0 hz1 hz2 (.slice p3 ((pre P j).length + 1) c3) (pre P j ++ [47]).length _ rfl HJ3.out.ow A rfl (by rw [List.length_append, List.length_singleton]; unfold maxLen; omega) (by rw [List.length_append, List.length_singleton]; omega) HJ3.out.be.size ?_; intro v4 w4 HO4 HG4 _; obtain ⟨p4, c4, rfl⟩ := own_form HO4))
              go_roundg (gk - 1)
              case measure => omega
              case rel => exact ⟨j + 1, by simp, by omega, by omega, by have h4 := HJ3.out.two hlt hj0 HA.out HO4 HG4; rw [List.length_append, List.length_singleton] at h4; exact h4⟩
          · have hcv := hjj.conv hlt HP.out.join
            have HJ := hid hjj
            clear hjj
            go_wp2_with fail
            go_ret
            exact ⟨rfl, HP.out.be.trans (HJ.out.be.mono HP.out.be.size)⟩
  · by_cases hb : s.size ≤ 1048576
    · have hq := bytes6_yes s w hb
      have hb2 : (65536 : Int) < s.size := by omega
      clear hb hs
      go_enter Try.func3, Try.ntmps3
      go_wp2_with (first | (go_at_call 6; go_fit hq; rintro e w' ⟨rfl, rfl⟩; clear hq))
      go_ret
      exact ⟨rfl, Below.refl _ _⟩
    · have hq := bytes6_no s w hb
      clear hb hs
      go_enter Try.func3, Try.ntmps3
      go_wp2_with (first | (go_at_call 6; go_fit hq; rintro e w' ⟨rfl, rfl⟩; clear hq))
      go_ret
      exact ⟨rfl, Below.refl _ _⟩
end Go.Proofs.Qxb6603847a.S
