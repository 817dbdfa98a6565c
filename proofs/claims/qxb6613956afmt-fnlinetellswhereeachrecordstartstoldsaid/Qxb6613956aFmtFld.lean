/-
  (*Reader).field: what it reads is 'fld' of the text.
-/
import Derived.Test.Qxb6613956aFmtQuo
namespace Go.Proofs.Qxb6613956aFmt.W
open Go.RowKit

/-- how field ends -/
def FOut (w : World) (B bc bb bf bs : Nat) (s : ByteArray) (st fd : Int) (ends rec : Value) (tx : List UInt8) (en : List Nat) (rn : List (List UInt8)) (X : List UInt8) (e : Ending) (w' : World) : Prop :=
  (∃ a, fld X = none ∧ e = .returned (.tuple #[.slice none 0 0, .bool false, errV a]) ∧ Bad w w' B a) ∨
  (∃ t Z v' b' long' text' ln', fld X = some (t, true, Z) ∧ e = .returned (.tuple #[v', .bool true, .nilIface]) ∧ LineIn w' b' v' (fl Z) ∧ (b' = bf ∨ b' ∈ vb long') ∧ RD w' B bc bb bf bs s (Z.drop (fl Z).length) ln' st fd long' text' ends rec (tx ++ t) en rn ∧ Below B w w') ∨
  (∃ t Z v' long' text' ln', fld X = some (t, false, Z) ∧ e = .returned (.tuple #[v', .bool false, .nilIface]) ∧ RD w' B bc bb bf bs s Z ln' st fd long' text' ends rec (tx ++ t) en rn ∧ Below B w w')

section
variable {w w' : World} {B bc bb bf bs : Nat} {s : ByteArray} {st fd : Int} {ends rec : Value} {tx : List UInt8} {en : List Nat} {rn : List (List UInt8)} {X : List UInt8}
theorem FOut.bad {a : Addr} (h1 : fld X = none) (h2 : Bad w w' B a) : FOut w B bc bb bf bs s st fd ends rec tx en rn X (.returned (.tuple #[.slice none 0 0, .bool false, errV a])) w' := .inl ⟨a, h1, rfl, h2⟩
theorem FOut.more {t Z : List UInt8} {v' : Value} {b' : Nat} {long' text' : Value} {ln' : Int} (h1 : fld X = some (t, true, Z)) (h2 : LineIn w' b' v' (fl Z)) (h3 : b' = bf ∨ b' ∈ vb long') (h4 : RD w' B bc bb bf bs s (Z.drop (fl Z).length) ln' st fd long' text' ends rec (tx ++ t) en rn) (h5 : Below B w w') :
    FOut w B bc bb bf bs s st fd ends rec tx en rn X (.returned (.tuple #[v', .bool true, .nilIface])) w' := .inr (.inl ⟨t, Z, v', b', long', text', ln', h1, rfl, h2, h3, h4, h5⟩)
theorem FOut.last {t Z : List UInt8} {v' : Value} {long' text' : Value} {ln' : Int} (h1 : fld X = some (t, false, Z)) (h4 : RD w' B bc bb bf bs s Z ln' st fd long' text' ends rec (tx ++ t) en rn) (h5 : Below B w w') :
    FOut w B bc bb bf bs s st fd ends rec tx en rn X (.returned (.tuple #[v', .bool false, .nilIface])) w' := .inr (.inr ⟨t, Z, v', long', text', ln', h1, rfl, h4, h5⟩)
end

theorem cut_hit' {b c bk N : Nat} {a : Addr} {p r L : List UInt8} (d : UInt8) (w : World) (h : LineIn w b (.slice (some a) N c) L) (hL : L = p ++ d :: r) (hd : w.cell? ⟨bk, 0, none⟩ = some (.int .u8 (d.toNat : Int))) (hp : d ∉ p) :
    Calls Tryf.prog 52 #[.slice (some a) N c, .slice (some ⟨bk, 0, none⟩) 1 1] w fun e w' => ∃ a' n' c', e = .returned (.tuple #[.slice (some a) p.length c, .slice (some a') n' c', .bool true]) ∧ LineIn w b (.slice (some a') n' c') r ∧ ∃ n, w' = w.drewN n := by
  obtain rfl := h.parts.1
  subst hL
  exact cut_hit d w h hd hp

theorem byte_ne {x : UInt8} {d : UInt8} (h : x ≠ d) : ¬ ((x.toNat : Int) = (d.toNat : Int)) := fun e => h (UInt8.toNat_inj.1 (Int.ofNat.inj e))

/-- the reader's text grows by M, the line's block stays -/
theorem RD.grow {w wr w2 : World} {B bc bb bf bs : Nat} {s : ByteArray} {T : List UInt8} {ln st fd : Int} {long text ends rec v2 : Value} {tx M : List UInt8} {en : List Nat} {rn : List (List UInt8)} (h : RD wr B bc bb bf bs s T ln st fd long text ends rec tx en rn) (hb : Below B w wr) (hB : B ≤ wr.heap.size) (hu : Upd (vb text) wr w2)
    (ho : w2.ownsRow B 5 1 v2 (tx.length + M.length) (Lib.byteCells tx ++ Lib.byteCells M)) (hg : ∀ k, k ∈ vb v2 → k ∈ vb text ∨ wr.heap.size ≤ k) :
    RD (w2.setCell ⟨bc, 5, none⟩ v2) B bc bb bf bs s T ln st fd long v2 ends rec (tx ++ M) en rn ∧ Below B w (w2.setCell ⟨bc, 5, none⟩ v2) ∧ ∀ b, (b = bf ∨ b ∈ vb long) → (w2.setCell ⟨bc, 5, none⟩ v2).heap[b]? = wr.heap[b]? := by
  refine ⟨h.set5 (tx' := tx ++ M) hu (by rw [List.length_append, Lib.byteCells_append]; exact ho) hg, hb.trans ((hu.below hB h.tblock).setCell h.cr.Bc _), fun b hb => ?_⟩
  have hne : b ≠ bc := by
    rcases hb with rfl | hb
    · exact ne_sym h.cr.cf
    · exact (h.cr.dl b hb).1
  rw [heap_set_other _ (by exact hne)]
  exact hu.block b (h.cr.inlt b (line_in hb)) (fun hm => h.dt b hm (line_in hb))

set_option maxRecDepth 100000 in
set_option maxHeartbeats 1000000 in
theorem field_comma (F : Go.Stop.Interp) (B bc bb bf bs : Nat) (s : ByteArray) (T : List UInt8) (ln st fd : Int) (long text ends rec : Value) (tx : List UInt8) (en : List Nat) (rn : List (List UInt8)) (X : List UInt8) (v : Value) (b : Nat) (nf : Int) (ea fa : Addr) (w : World)
    (h : RD w B bc bb bf bs s T ln st fd long text ends rec tx en rn) (he : Errs w B ea fa) (hF : F.answers w.tape) (hL : LineIn w b v (fl X)) (hb : b = bf ∨ b ∈ vb long) (hT : T = X.drop (fl X).length) (hsz : tx.length + X.length ≤ 4194304)
    (h34 : X.head? ≠ some 34) (h44 : (44 : UInt8) ∈ fl X) :
    Calls Tryf.prog 42 #[.pointer (some ⟨bc, 0, none⟩), v, .int .i64 nf] w fun e w' => FOut w B bc bb bf bs s st fd ends rec tx en rn X e w' := by
  obtain ⟨i0, hi, hz0, hz1, hz2⟩ := info_parts info5b
  have hBs := he.sz
  have hfl := fl_le X
  rw [← fl_head] at h34
  obtain ⟨L, hLe⟩ : ∃ L, L = fl X := ⟨_, rfl⟩
  rw [← hLe] at hL h44 hT hfl h34
  obtain ⟨a, c, rfl, hlc, hcm⟩ := hL.form
  obtain ⟨p, r, hpr, hp⟩ := first_split 44 L h44
  obtain ⟨o, rfl⟩ := hL.at (by rw [hpr]; simp)
  have hlen : L.length = p.length + 1 + r.length := by rw [hpr]; simp; omega
  obtain ⟨x, l, hxl⟩ : ∃ x l, L = x :: l := by
    cases hq : L with
    | nil => rw [hpr] at hq; simp at hq
    | cons x l => exact ⟨x, l, rfl⟩
  have hx : x ≠ 34 := by rw [hxl] at h34; simpa using h34
  have c0 : w.cell? ⟨b, o, none⟩ = some (.int .u8 (x.toNat : Int)) := by
    obtain ⟨o', ho', hc⟩ := hL.parts.2.2.2 (by rw [hxl]; simp)
    simp at ho'
    have := hc 0 (by rw [hxl]; simp)
    rw [← ho', Nat.add_zero] at this
    rw [this]
    simp only [hxl, List.getElem_cons_zero]
  have hx3 := byte_ne hx
  have hx4 : ((x.toNat : Int) == 34) = false := by rw [beq_eq_false_iff_ne]; exact hx3
  have hx5 : ((x.toNat : Int) != 34) = true := by simp [bne, hx4]
  have hn0 : ((L.length : Int) == 0) = false := by rw [beq_eq_false_iff_ne]; omega
  have hlI : (0 : Int) < L.length := by omega
  have q1 := cut_hit' (bk := w.heap.size) 44 (w.alloc (.cells #[.int .u8 44] 5 (0, 0))) (hL.far ((Upd.refl [] w).alloc _) (h.cr.inlt b (line_in hb)) (by simp)) hpr (cell_one_new _ _ _ 0 _ rfl) hp
  have hpl : tx.length + p.length ≤ 4194304 := by omega
  have HL := hid hL
  have HR := hid h
  have HPR := hid hpr
  have HLE := hid hLe
  have H34 := hid h34
  have HT := hid hT
  clear hL h hpr hLe hxl hlen h34 hx hT
  go_enter Tryf.func42, Tryf.ntmps42
  go_wp2_with fail
  go_fit q1
  rintro e w1' ⟨a1, n1, c1, rfl, hl1, nd, hw1⟩
  clear q1
  obtain ⟨w1, hw1'⟩ : ∃ w1, w1 = w1' := ⟨_, rfl⟩
  rw [← hw1']
  have HU1 : Upd [] w w1 := by rw [hw1', hw1]; exact ((Upd.refl [] w).alloc _).drewN nd
  have HLA := hid (show LineIn w1 b (.slice (some a1) n1 c1) r by rw [hw1', hw1]; exact hl1.upd rfl)
  clear hw1' hw1 hl1 c0
  have HR1 := hid (HR.out.far HU1 (by simp))
  have HB1 := hid (HU1.below hBs (by simp))
  have HLP := hid (show LineIn w1 b (.slice (some ⟨b, o, none⟩) p.length c) p from (HL.out.far HU1 (HR.out.cr.inlt b (line_in hb)) (by simp)).pre ⟨44 :: r, HPR.out.symm⟩)
  have hB1 := Nat.le_trans hBs HU1.size
  obtain ⟨k1, k5, g5⟩ := rcell HR1.out.cr.hc
  by_cases h34p : (34 : UInt8) ∈ p
  · obtain ⟨p1, r1, hp1, hpn⟩ := first_split 34 p h34p
    have q : Calls Tryf.prog 53 #[.slice (some ⟨b, o, none⟩) p.length c, .int .u8 34] w1 fun e w' => e = .returned (.int .i64 (p1.length : Int)) ∧ w' = w1 := idx_line_at 34 w1 HLP.out hp1 hpn
    have hF1 : F.answers w1.tape := by rw [HB1.out.tape]; exact hF
    have hge : (0 : Int) ≤ p1.length := by omega
    clear hp1
    go_wp2_with fail
    go_fit q
    rintro e w2 ⟨rfl, hw2⟩
    clear q
    subst hw2
    go_wp2_with fail
    go_fit (errorf2 F fmA ln nf w2.heap.size _ (by exact hF1) (by go_simp) (by go_simp) prA)
    rintro e w4 ⟨t, rfl, rfl⟩
    go_wp2_with fail
    go_ret3
    refine FOut.bad ?_ (Bad.at (Bad.mk' HB1.out hB1 _ t) (by simp))
    exact fld_c_bad (by rw [← fl_head, ← HLE.out]; exact H34.out) (HLE.out.symm.trans HPR.out) hp h34p
  · have q : Calls Tryf.prog 53 #[.slice (some ⟨b, o, none⟩) p.length c, .int .u8 34] w1 fun e w' => e = .returned (.int .i64 (-1)) ∧ w' = w1 := idx_line_miss 34 w1 HLP.out h34p
    go_wp2_with fail
    go_fit q
    rintro e w2 ⟨rfl, hw2⟩
    clear q
    subst hw2
    go_wp2_with (first | (at_builtin; refine wpList_app0 rfl (.tmp 48) (.tmp 49) 43 rfl B 5 i0 (.int .u8 0) 1 1 Tryf.underlying43 hi hz0 hz1 hz2 rfl (by decide) text tx.length (Lib.byteCells tx) rfl HR1.out.ot ⟨b, o, none⟩ p.length c (Lib.byteCells p) rfl (by rw [Lib.byteCells_length]; omega) HLP.out.news (Lib.byteCells_one _) (by unfold maxLen; omega) (by omega) hB1 ?_; intro p2 cap2 w3 HO2 hu2 hg2; obtain ⟨j1, j5, m5⟩ := rcell (hu2.heap HR1.out.cr.hc (not_text HR1.out))))
    go_ret3
    have hg := HR1.out.grow HB1.out hB1 hu2 HO2 hg2
    obtain ⟨_, _, h3, h4⟩ := fl_split (HLE.out.symm.trans HPR.out) (by decide)
    have hrd := hg.1
    rw [HT.out, HLE.out, h4, ← h3] at hrd
    exact FOut.more (Z := X.drop (p.length + 1)) (fld_c_more (by rw [← fl_head, ← HLE.out]; exact H34.out) (HLE.out.symm.trans HPR.out) hp h34p) (by rw [h3]; exact HLA.out.upd (hg.2.2 b hb)) hb hrd hg.2.1

set_option maxRecDepth 100000 in
set_option maxHeartbeats 1000000 in
theorem field_last (F : Go.Stop.Interp) (B bc bb bf bs : Nat) (s : ByteArray) (T : List UInt8) (ln st fd : Int) (long text ends rec : Value) (tx : List UInt8) (en : List Nat) (rn : List (List UInt8)) (X : List UInt8) (v : Value) (b : Nat) (nf : Int) (ea fa : Addr) (w : World)
    (h : RD w B bc bb bf bs s T ln st fd long text ends rec tx en rn) (he : Errs w B ea fa) (hF : F.answers w.tape) (hL : LineIn w b v (fl X)) (hb : b = bf ∨ b ∈ vb long) (hT : T = X.drop (fl X).length) (hsz : tx.length + X.length ≤ 4194304)
    (h34 : X.head? ≠ some 34) (h44 : (44 : UInt8) ∉ fl X) :
    Calls Tryf.prog 42 #[.pointer (some ⟨bc, 0, none⟩), v, .int .i64 nf] w fun e w' => FOut w B bc bb bf bs s st fd ends rec tx en rn X e w' := by
  obtain ⟨i0, hi, hz0, hz1, hz2⟩ := info_parts info5b
  have hBs := he.sz
  have hfl := fl_le X
  rw [← fl_head] at h34
  obtain ⟨L, hLe⟩ : ∃ L, L = fl X := ⟨_, rfl⟩
  rw [← hLe] at hL h44 hT hfl h34
  obtain ⟨a, c, rfl, hlc, hcm⟩ := hL.form
  have htr := trim_len L
  have hpre := trim_sub L
  have q1 := cut_miss (bk := w.heap.size) 44 (w.alloc (.cells #[.int .u8 44] 5 (0, 0))) (hL.far ((Upd.refl [] w).alloc _) (h.cr.inlt b (line_in hb)) (by simp)) (cell_one_new _ _ _ 0 _ rfl) h44
  have q2 := trimBreak_any (w.alloc (.cells #[.int .u8 44] 5 (0, 0))) (hL.far ((Upd.refl [] w).alloc _) (h.cr.inlt b (line_in hb)) (by simp)) (by have := h.cr.inlt b (line_in hb); simp; omega)
  obtain ⟨M, hM⟩ : ∃ M, M = trim L := ⟨_, rfl⟩
  rw [← hM] at htr hpre q2
  have hpl : tx.length + M.length ≤ 4194304 := by omega
  have HL := hid hL
  have HR := hid h
  have HLE := hid hLe
  have H34 := hid h34
  have HT := hid hT
  have HM := hid hM
  have HPRE := hid hpre
  have hcase : (L.length = 0) ∨ ∃ x o, x ≠ (34 : UInt8) ∧ a = ⟨b, o, none⟩ ∧ 0 < L.length ∧ w.cell? ⟨b, o, none⟩ = some (.int .u8 (x.toNat : Int)) := by
    cases hq : L with
    | nil => exact .inl rfl
    | cons x l =>
      right
      obtain ⟨o', ho', hc⟩ := hL.parts.2.2.2 (by rw [hq]; simp)
      refine ⟨x, o', by rw [hq] at h34; simpa using h34, ho', by simp, ?_⟩
      have := hc 0 (by rw [hq]; simp)
      rw [Nat.add_zero] at this
      rw [this]
      simp only [hq, List.getElem_cons_zero]
  clear hL h hLe h34 hT hM hpre
  rcases hcase with h0 | ⟨x, o, hx, ha, hl0, c0⟩
  case' inl =>
    have hn0 : ((L.length : Int) == 0) = true := by simp [h0]
    replace h0 := hid h0
  case' inr =>
    have hx3 := byte_ne hx
    have hx4 : ((x.toNat : Int) == 34) = false := by rw [beq_eq_false_iff_ne]; exact hx3
    have hx5 : ((x.toNat : Int) != 34) = true := by simp [bne, hx4]
    have hn0 : ((L.length : Int) == 0) = false := by rw [beq_eq_false_iff_ne]; omega
    have hlI : (0 : Int) < L.length := by omega
    subst ha
  all_goals
    go_enter Tryf.func42, Tryf.ntmps42
    go_wp2_with fail
    go_fit q1
    rintro e w1' ⟨rfl, hw1⟩
    clear q1
    subst hw1
    go_wp2_with fail
    go_fit q2
    rintro e w1 ⟨rfl, hu1⟩
    clear q2
    have HU1 : Upd [] w w1 := ((Upd.refl [] w).alloc _).trans hu1
    clear hu1
    have HR1 := hid (HR.out.far HU1 (by simp))
    have HB1 := hid (HU1.below hBs (by simp))
    have HLP := hid ((HL.out.far HU1 (HR.out.cr.inlt b (line_in hb)) (by simp)).pre HPRE.out)
    have hB1 := Nat.le_trans hBs HU1.size
    obtain ⟨k1, k5, g5⟩ := rcell HR1.out.cr.hc
    by_cases h34p : (34 : UInt8) ∈ M
    · obtain ⟨p1, r1, hp1, hpn⟩ := first_split 34 M h34p
      have q := idx_line_at 34 w1 HLP.out hp1 hpn
      have hF1 : F.answers w1.tape := by rw [HB1.out.tape]; exact hF
      have hge : (0 : Int) ≤ p1.length := by omega
      clear hp1
      go_wp2_with fail
      go_fit q
      rintro e w2 ⟨rfl, hw2⟩
      clear q
      subst hw2
      go_wp2_with fail
      go_fit (errorf2 F fmA ln nf w2.heap.size _ (by exact hF1) (by go_simp) (by go_simp) prA)
      rintro e w4 ⟨t, rfl, rfl⟩
      go_wp2_with fail
      go_ret3
      refine FOut.bad ?_ (Bad.at (Bad.mk' HB1.out hB1 _ t) (by simp))
      exact fld_l_bad (by rw [← fl_head, ← HLE.out]; exact H34.out) (by rw [← HLE.out]; exact h44) (by rw [← HLE.out, ← HM.out]; exact h34p)
    · have q := idx_line_miss 34 w1 HLP.out h34p
      go_wp2_with fail
      go_fit q
      rintro e w2 ⟨rfl, hw2⟩
      clear q
      subst hw2
      go_wp2_with (first | (at_builtin; refine wpList_app0 rfl (.tmp 48) (.tmp 49) 43 rfl B 5 i0 (.int .u8 0) 1 1 Tryf.underlying43 hi hz0 hz1 hz2 rfl (by decide) text tx.length (Lib.byteCells tx) rfl HR1.out.ot _ M.length c (Lib.byteCells M) rfl (by rw [Lib.byteCells_length]; omega) HLP.out.news (Lib.byteCells_one _) (by unfold maxLen; omega) (by omega) hB1 ?_; intro p2 cap2 w3 HO2 hu2 hg2; obtain ⟨j1, j5, m5⟩ := rcell (hu2.heap HR1.out.cr.hc (not_text HR1.out))))
      go_ret3
      have hg := HR1.out.grow HB1.out hB1 hu2 HO2 hg2
      refine FOut.last (t := M) (Z := T) ?_ hg.1 hg.2.1
      rw [HT.out, HM.out, HLE.out]
      exact fld_l_last (by rw [← fl_head, ← HLE.out]; exact H34.out) (by rw [← HLE.out]; exact h44) (by rw [← HLE.out, ← HM.out]; exact h34p)

set_option maxRecDepth 100000 in
set_option maxHeartbeats 1000000 in
theorem field_quoted (F : Go.Stop.Interp) (B bc bb bf bs : Nat) (s : ByteArray) (T : List UInt8) (ln st fd : Int) (long text ends rec : Value) (tx : List UInt8) (en : List Nat) (rn : List (List UInt8)) (X Y : List UInt8) (v : Value) (b : Nat) (nf : Int) (ea fa : Addr) (w : World)
    (h : RD w B bc bb bf bs s T ln st fd long text ends rec tx en rn) (he : Errs w B ea fa) (hF : F.answers w.tape) (hL : LineIn w b v (fl X)) (hb : b = bf ∨ b ∈ vb long) (hT : T = X.drop (fl X).length) (hsz : tx.length + X.length ≤ 4194304)
    (hX : X = 34 :: Y) :
    Calls Tryf.prog 42 #[.pointer (some ⟨bc, 0, none⟩), v, .int .i64 nf] w fun e w' => FOut w B bc bb bf bs s st fd ends rec tx en rn X e w' := by
  have hBs := he.sz
  have hfX : fl X = 34 :: fl Y := by rw [hX, fl, if_neg (by decide)]
  obtain ⟨L, hLe⟩ : ∃ L, L = fl X := ⟨_, rfl⟩
  have hTY : T = Y.drop (fl Y).length := by rw [hT, hfX, hX]; simp
  rw [← hLe] at hL
  have hlen : L.length = (fl Y).length + 1 := by rw [hLe, hfX]; simp
  obtain ⟨a, c, rfl, hlc, hcm⟩ := hL.form
  obtain ⟨o, rfl⟩ := hL.at (by rw [hLe, hfX]; simp)
  have c0 : w.cell? ⟨b, o, none⟩ = some (.int .u8 34) := by
    obtain ⟨o', ho', hc⟩ := hL.parts.2.2.2 (by omega)
    simp at ho'
    have := hc 0 (by omega)
    rw [← ho', Nat.add_zero] at this
    rw [this]
    simp only [hLe, hfX, List.getElem_cons_zero]
    rfl
  have hn0 : ((L.length : Int) == 0) = false := by rw [beq_eq_false_iff_ne]; omega
  have hlI : (0 : Int) < L.length := by omega
  have b1 : (1 : Int) ≤ L.length := by omega
  have b2 : (L.length : Int) ≤ c := by omega
  have b3 : (c : Int) ≤ 9223372036854775807 := by unfold maxLen at hcm; omega
  have hX34 : fl X = [] ++ 34 :: fl Y := hfX
  have HL := hid hL
  have HR := hid h
  have HLE := hid hLe
  have HLX := hid (hLe.trans hX34)
  have hszY : tx.length + Y.length ≤ 4194304 := by rw [hX] at hsz; simp at hsz; omega
  have HTY := hid hTY
  have HX := hid hX
  clear hL h hLe hX34 hfX hlen hTY hT hsz hX
  have q0 : ∀ v, LineIn w b v (fl Y) → Calls Tryf.prog 54 #[.pointer (some ⟨bc, 0, none⟩), v, .int .i64 nf] w fun e w' => QOut w B bc bb bf bs s st fd ends rec tx en rn Y e w' := fun v hv => quoted_any F B bc bb bf bs s T ln st fd long text ends rec tx en rn Y v b nf ea fa w HR.out he hF hv hb HTY.out hszY
  have Q0 := hid q0
  clear q0
  go_enter Tryf.func42, Tryf.ntmps42
  go_wp2_with fail
  case' inl => have HV := hid (show LineIn w b (.slice (some ⟨b, o, none⟩) (L.length - 1) 0) (fl Y) by have := cut_at HL.out HLX.out ⟨b, o, none⟩ (fun hh => by simp at hh; omega); rw [show c = 1 by omega] at this; exact this)
  case' inr => have HV := hid (show LineIn w b (.slice (some ⟨b, o + 1, none⟩) (L.length - 1) (c - 1)) (fl Y) from cut_at HL.out HLX.out ⟨b, o + 1, none⟩ (fun _ => rfl))
  all_goals
    have q := Q0.out _ HV.out
    go_fit q
    rintro e w1 hq
    clear q c0 hn0 hlI b1 b2
    rcases hq with ⟨a, hq0, rfl, hbad⟩ | ⟨t, Z, v1, b1, long1, text1, ln1, hq0, rfl, hl1, hb1, hr1, hbe1⟩
    · have HQ0 := hid hq0
      clear hq0
      go_wp2_with fail
      go_ret3
      exact FOut.bad (fld_q HX.out HQ0.out) hbad
    · obtain ⟨L1, hL1⟩ : ∃ L1, L1 = fl Z := ⟨_, rfl⟩
      rw [← hL1] at hl1 hr1
      obtain ⟨a1, c1, rfl, hlc1, hcm1⟩ := hl1.form
      have q2 := trimBreak_any w1 hl1 (hr1.cr.inlt b1 (line_in hb1))
      obtain ⟨M, hM⟩ : ∃ M, M = trim L1 := ⟨_, rfl⟩
      rw [← hM] at q2
      have HQ0 := hid hq0
      have HL1 := hid hl1
      have HR1 := hid hr1
      have HLZ := hid hL1
      have HM := hid hM
      clear hq0 hl1 hr1 hL1 hM
      go_wp2_with fail
      go_fit q2
      rintro e w2 ⟨rfl, hu2⟩
      clear q2
      have HR2 := hid (HR1.out.far hu2 (by simp))
      have HL2 := hid (HL1.out.far hu2 (HR1.out.cr.inlt b1 (line_in hb1)) (by simp))
      have hB1 := Nat.le_trans hBs hbe1.size
      have HB2 := hid (hbe1.trans (hu2.below hB1 (by simp)))
      have hB2 := Nat.le_trans hBs HB2.out.size
      by_cases hm : M.length = 0
      · have hm0 : ((M.length : Int) == 0) = true := by simp [hm]
        have hz : trim (fl Z) = [] := by rw [← HLZ.out, ← HM.out]; exact List.eq_nil_of_length_eq_zero hm
        replace hz := hid hz
        clear hm
        go_wp2_with fail
        go_ret3
        have hrd := HR2.out
        rw [HLZ.out] at hrd
        exact FOut.last (fld_q_last HX.out HQ0.out hz.out) hrd HB2.out
      · have hm0 : ((M.length : Int) == 0) = false := by rw [beq_eq_false_iff_ne]; omega
        have htl := trim_len L1
        have hz : trim (fl Z) ≠ [] := by
          rw [← HLZ.out, ← HM.out]
          intro e
          rw [e] at hm
          exact hm rfl
        have hL0 : 0 < L1.length := by rw [← HM.out] at htl; omega
        obtain ⟨x, l, hxl⟩ : ∃ x l, L1 = x :: l := by
          cases hq : L1 with
          | nil => rw [hq] at hL0; simp at hL0
          | cons x l => exact ⟨x, l, rfl⟩
        obtain ⟨o1, rfl⟩ := HL2.out.at (by rw [hxl]; simp)
        have c0 : w2.cell? ⟨b1, o1, none⟩ = some (.int .u8 (x.toNat : Int)) := by
          obtain ⟨o', ho', hc⟩ := HL2.out.parts.2.2.2 hL0
          simp at ho'
          have := hc 0 hL0
          rw [← ho', Nat.add_zero] at this
          rw [this]
          simp only [hxl, List.getElem_cons_zero]
        have hhd : Z.head? = some x := by rw [← fl_head, ← HLZ.out, hxl]; rfl
        have HZ := hid hz
        have HXL := hid (show L1 = [] ++ x :: l from hxl)
        have HHD := hid hhd
        have hlI : (0 : Int) < L1.length := by omega
        have d1 : (1 : Int) ≤ L1.length := by omega
        have d2 : (L1.length : Int) ≤ c1 := by omega
        have d3 : (c1 : Int) ≤ 9223372036854775807 := by unfold maxLen at hcm1; omega
        clear hz hxl hhd hm htl
        by_cases hx : x = 44
        · have hx2 : ((x.toNat : Int) == 44) = true := by rw [hx]; rfl
          have hx0 := hid hx
          clear hx
          obtain ⟨_, h3, h4⟩ := fl_cons (HLZ.out.symm.trans (HXL.out.trans (by rw [hx0.out]; rfl))) (by decide)
          have hrd := HR2.out
          rw [HLZ.out, h4] at hrd
          have HF := hid (And.intro h3 hrd)
          clear h3 h4 hrd
          go_wp2_with fail
          case' inl => have HV2 := hid (show LineIn w2 b1 (.slice (some ⟨b1, o1, none⟩) (L1.length - 1) 0) l by have := cut_at HL2.out HXL.out ⟨b1, o1, none⟩ (fun hh => by simp at hh; omega); rw [show c1 = 1 by omega] at this; exact this)
          case' inr => have HV2 := hid (show LineIn w2 b1 (.slice (some ⟨b1, o1 + 1, none⟩) (L1.length - 1) (c1 - 1)) l from cut_at HL2.out HXL.out ⟨b1, o1 + 1, none⟩ (fun _ => rfl))
          all_goals
            go_ret3
            obtain ⟨h3, hrd⟩ := HF.out
            have hv2 := HV2.out
            rw [← h3] at hrd hv2
            exact FOut.more (fld_q_more HX.out HQ0.out HZ.out (by rw [HHD.out, hx0.out])) hv2 hb1 hrd HB2.out
        · have hx3 := byte_ne hx
          have hx4 : ((x.toNat : Int) == 44) = false := by rw [beq_eq_false_iff_ne]; exact hx3
          have hF2 : F.answers w2.tape := by rw [HB2.out.tape]; exact hF
          obtain ⟨k1, k5, g5⟩ := rcell HR2.out.cr.hc
          go_wp2_with fail
          go_fit (errorf2 F fmB ln1 nf w2.heap.size _ (by exact hF2) (by go_simp) (by go_simp) prB)
          rintro e w4 ⟨t, rfl, rfl⟩
          go_wp2_with fail
          go_ret3
          refine FOut.bad ?_ (Bad.at (Bad.mk' HB2.out hB2 _ t) (by simp))
          exact fld_q_bad HX.out HQ0.out HZ.out (by rw [HHD.out]; simpa using hx)

/-- field, whole -/
theorem field_any (F : Go.Stop.Interp) (B bc bb bf bs : Nat) (s : ByteArray) (T : List UInt8) (ln st fd : Int) (long text ends rec : Value) (tx : List UInt8) (en : List Nat) (rn : List (List UInt8)) (X : List UInt8) (v : Value) (b : Nat) (nf : Int) (ea fa : Addr) (w : World)
    (h : RD w B bc bb bf bs s T ln st fd long text ends rec tx en rn) (he : Errs w B ea fa) (hF : F.answers w.tape) (hL : LineIn w b v (fl X)) (hb : b = bf ∨ b ∈ vb long) (hT : T = X.drop (fl X).length) (hsz : tx.length + X.length ≤ 4194304) :
    Calls Tryf.prog 42 #[.pointer (some ⟨bc, 0, none⟩), v, .int .i64 nf] w fun e w' => FOut w B bc bb bf bs s st fd ends rec tx en rn X e w' := by
  by_cases h34 : X.head? = some 34
  · obtain ⟨Y, hX⟩ : ∃ Y, X = 34 :: Y := by
      cases X with
      | nil => simp at h34
      | cons x l => simp at h34; exact ⟨l, by rw [h34]⟩
    exact field_quoted F B bc bb bf bs s T ln st fd long text ends rec tx en rn X Y v b nf ea fa w h he hF hL hb hT hsz hX
  · by_cases h44 : (44 : UInt8) ∈ fl X
    · exact field_comma F B bc bb bf bs s T ln st fd long text ends rec tx en rn X v b nf ea fa w h he hF hL hb hT hsz h34 h44
    · exact field_last F B bc bb bf bs s T ln st fd long text ends rec tx en rn X v b nf ea fa w h he hF hL hb hT hsz h34 h44
end Go.Proofs.Qxb6613956aFmt.W
