/-
  (*Reader).Read: the next record is 'rc' of the text behind its blank lines.
-/
import Derived.Test.Qxb6613956aFmtRec
namespace Go.Proofs.Qxb6613956aFmt.W
open Go.RowKit

/-- how Read ends -/
def ROut (w : World) (B bc bb bf bs : Nat) (s : ByteArray) (T : List UInt8) (fd : Nat) (ea : Addr) (e : Ending) (w' : World) : Prop :=
  (unbl T = [] ∧ e = .returned (.tuple #[.slice none 0 0, errV ea]) ∧ Below B w w') ∨
  (∃ a, unbl T ≠ [] ∧ (rc (unbl T) = none ∨ ∃ r Z, rc (unbl T) = some (r, Z) ∧ fd ≠ 0 ∧ r.length ≠ fd) ∧ e = .returned (.tuple #[.slice none 0 0, errV a]) ∧ Bad w w' B a) ∨
  (∃ r Z v ln st long text ends tx en, unbl T ≠ [] ∧ rc (unbl T) = some (r, Z) ∧ (fd = 0 ∨ r.length = fd) ∧ e = .returned (.tuple #[v, .nilIface]) ∧ RD w' B bc bb bf bs s Z ln st (r.length : Nat) long text ends v tx en r ∧ st + ((unbl T).count 10 : Nat) = (s.data.toList.count 10 : Nat) + 1 ∧ Below B w w')

/-- what Read keeps while it skips blank lines: the line at hand is the first one of X -/
structure BI (w wr : World) (B bc bb bf bs : Nat) (s : ByteArray) (ln st fd : Int) (long text ends rec : Value) (tx : List UInt8) (en : List Nat) (rn : List (List UInt8)) (T X : List UInt8) (v : Value) (b : Nat) : Prop where
  rd : RD wr B bc bb bf bs s (X.drop (fl X).length) ln st fd long text ends rec tx en rn
  li : LineIn wr b v (fl X)
  hb : b = bf ∨ b ∈ vb long
  ne : X ≠ []
  eq : unbl T = unbl X
  be : Below B w wr
  lx : ln + (X.count 10 : Nat) = (s.data.toList.count 10 : Nat) + 1
  sz : X.length ≤ s.size

theorem BI.of {w w3 w4 : World} {B bc bb bf bs b4 : Nat} {s : ByteArray} {ln st fd : Int} {long long4 text ends rec v4 : Value} {tx : List UInt8} {en : List Nat} {rn : List (List UInt8)} {T X : List UInt8} (hT : X ≠ []) (h3 : RD w3 B bc bb bf bs s X ln st fd long text ends rec tx en rn) (hl : LineIn w4 b4 v4 (fl X)) (hr : RD w4 B bc bb bf bs s (X.drop (fl X).length) (ln + 1) st fd long4 text ends rec tx en rn) (hb : b4 = bf ∨ b4 ∈ vb long4) (eq : unbl T = unbl X) (be : Below B w w4) :
    BI w w4 B bc bb bf bs s (ln + 1) st fd long4 text ends rec tx en rn T X v4 b4 :=
  { rd := hr, li := hl, hb := hb, ne := hT, eq := eq, be := be, lx := by have := h3.lc hT; omega, sz := by have := h3.l1; have := h3.l0; omega }

/-- what Read keeps while another field is to come -/
structure FI (w wr : World) (B bc bb bf bs : Nat) (s : ByteArray) (ln st fd : Int) (long text ends rec : Value) (tx : List UInt8) (en : List Nat) (rn : List (List UInt8)) (X0 X : List UInt8) (acc : List (List UInt8)) (v : Value) (b : Nat) : Prop where
  rd : RD wr B bc bb bf bs s (X.drop (fl X).length) ln st fd long text ends rec tx en rn
  li : LineIn wr b v (fl X)
  hb : b = bf ∨ b ∈ vb long
  eq : rc X0 = aheadF acc (rc X)
  te : tx = acc.flatten
  ee : en = psums acc
  be : Below B w wr
  c1 : tx.length + X.length ≤ s.size
  c2 : acc.length + X.length ≤ s.size
/-- what Read has behind the record's last field -/
structure FE (w wr : World) (B bc bb bf bs : Nat) (s : ByteArray) (ln st fd : Int) (long text ends rec : Value) (tx : List UInt8) (en : List Nat) (rn : List (List UInt8)) (X0 Z : List UInt8) (acc : List (List UInt8)) : Prop where
  rd : RD wr B bc bb bf bs s Z ln st fd long text ends rec tx en rn
  eq : rc X0 = some (acc, Z)
  te : tx = acc.flatten
  ee : en = psums acc
  be : Below B w wr
  c1 : tx.length ≤ s.size
  c2 : acc.length ≤ s.size + 1
  ne : 0 < acc.length

theorem Upd.like {S : List Nat} {a a' b : World} (h : Upd S a b) (h1 : a.os = a'.os) (h2 : a.tape = a'.tape) (h3 : a.output = a'.output) (h4 : a.heap = a'.heap) : Upd S a' b :=
  ⟨h.os.trans h1, h.tape.trans h2, h.output.trans h3, by rw [← h4]; exact h.size, by rw [← h4]; exact h.block⟩

/-- 'r.ends = append(r.ends, len(r.text))' -/
theorem RD.addEnd {w w1 w2 : World} {B bc bb bf bs : Nat} {s : ByteArray} {T : List UInt8} {ln st fd : Int} {long text ends rec v2 : Value} {tq : List UInt8} {en : List Nat} {rn : List (List UInt8)} (h : RD w1 B bc bb bf bs s T ln st fd long text ends rec tq en rn) (o : Obj) (hB : B ≤ w1.heap.size) (hbe : Below B w w1) (hu : Upd (vb ends) (w1.alloc o) w2)
    (ho : w2.ownsRow B 3 1 v2 (en.length + 1) (intsV en ++ [.int .i64 (tq.length : Int)])) (hg : ∀ k, k ∈ vb v2 → k ∈ vb ends ∨ (w1.alloc o).heap.size ≤ k) :
    RD (w2.setCell ⟨bc, 6, none⟩ v2) B bc bb bf bs s T ln st fd long text v2 rec tq (en ++ [tq.length]) rn ∧ Below B w (w2.setCell ⟨bc, 6, none⟩ v2) ∧ ∀ b, (b = bf ∨ b ∈ vb long) → (w2.setCell ⟨bc, 6, none⟩ v2).heap[b]? = w1.heap[b]? := by
  refine ⟨(h.far ((Upd.refl [] w1).alloc o) (by simp)).set6 (en' := en ++ [tq.length]) hu ?_ hg, ?_, fun b hb => ?_⟩
  · rw [List.length_append, intsV, List.map_append]; exact ho
  · exact ((hbe.alloc hB o).trans (hu.below (by simp; omega) (fun k hk => (owns_lt h.oe k hk).2))).setCell h.cr.Bc _
  · have hne : b ≠ bc := by
      rcases hb with rfl | hb
      · exact ne_sym h.cr.cf
      · exact (h.cr.dl b hb).1
    have hlt := h.cr.inlt b (line_in hb)
    rw [heap_set_other _ (by exact hne), hu.block b (by simp; omega) (fun hm => (h.de b hm).1 (line_in hb)), al_old _ _ _ hlt]

theorem Bad.trans {w w1 w2 : World} {B : Nat} {a : Addr} (h : Below B w w1) (k : Bad w1 w2 B a) : Bad w w2 B a := ⟨k.lo, k.row, h.trans k.be⟩

section
variable {w wr w7 : World} {B bc bb bf bs : Nat} {s : ByteArray} {ln ln7 st fd : Int} {long long7 text text7 ends ends7 rec : Value} {tx tq t : List UInt8} {en : List Nat} {rn : List (List UInt8)} {X0 X Z : List UInt8} {acc : List (List UInt8)} {v v7 : Value} {b b7 : Nat}
theorem FI.more (h : FI w wr B bc bb bf bs s ln st fd long text ends rec tx en rn X0 X acc v b) (hf : fld X = some (t, true, Z)) (hq : tq = tx ++ t) (hr : RD w7 B bc bb bf bs s (Z.drop (fl Z).length) ln7 st fd long7 text7 ends7 rec tq (en ++ [tq.length]) rn) (hl : LineIn w7 b7 v7 (fl Z)) (hb : b7 = bf ∨ b7 ∈ vb long7) (be : Below B w w7) :
    FI w w7 B bc bb bf bs s ln7 st fd long7 text7 ends7 rec tq (en ++ [tq.length]) rn X0 Z (acc ++ [t]) v7 b7 ∧ Z.length < X.length := by
  have hl := fld_len hf
  have h1 := hl.2.1 rfl
  have c1 := h.c1
  have c2 := h.c2
  have e1 : tq = (acc ++ [t]).flatten := by rw [hq, h.te]; simp
  refine ⟨{ rd := hr, li := by assumption, hb := hb, eq := by rw [h.eq, rc_step acc hf], te := e1, ee := by rw [psums_app, ← e1, h.ee], be := be, c1 := by rw [hq, List.length_append]; omega, c2 := by simp; omega }, by omega⟩
theorem FI.last (h : FI w wr B bc bb bf bs s ln st fd long text ends rec tx en rn X0 X acc v b) (hf : fld X = some (t, false, Z)) (hq : tq = tx ++ t) (hr : RD w7 B bc bb bf bs s Z ln7 st fd long7 text7 ends7 rec tq (en ++ [tq.length]) rn) (be : Below B w w7) :
    FE w w7 B bc bb bf bs s ln7 st fd long7 text7 ends7 rec tq (en ++ [tq.length]) rn X0 Z (acc ++ [t]) := by
  have hl := fld_len hf
  have c1 := h.c1
  have c2 := h.c2
  have e1 : tq = (acc ++ [t]).flatten := by rw [hq, h.te]; simp
  exact { rd := hr, eq := by rw [h.eq, rc_last hf]; rfl, te := e1, ee := by rw [psums_app, ← e1, h.ee], be := be, c1 := by rw [hq, List.length_append]; omega, c2 := by simp; omega, ne := by simp }
end

theorem vb_any {p : Option Addr} {n c m d k : Nat} (h : k ∈ vb (.slice p n c)) : k ∈ vb (.slice p m d) := by cases p <;> exact h

/-- what Read keeps while it cuts its text into fields -/
structure GI (w wr : World) (B bc bb bf bs : Nat) (s : ByteArray) (ln st fd : Int) (long text ends rec : Value) (tx : List UInt8) (en : List Nat) (Z : List UInt8) (acc R : List (List UInt8)) (i : Nat) : Prop where
  rd : RD wr B bc bb bf bs s Z ln st fd long text ends rec tx en R
  be : Below B w wr
  re : R = acc.take i

/-- 'r.record = append(r.record, ..)' -/
theorem GI.add {w w1 w2 : World} {B bc bb bf bs : Nat} {s : ByteArray} {ln st fd : Int} {long text ends rec v2 : Value} {tx : List UInt8} {en : List Nat} {Z : List UInt8} {acc R : List (List UInt8)} {i : Nat} (h : GI w w1 B bc bb bf bs s ln st fd long text ends rec tx en Z acc R i) (o : Obj) (hB : B ≤ w1.heap.size) (hi : i < acc.length) (hu : Upd (vb rec) (w1.alloc o) w2)
    {x : ByteArray} (hx : x = ⟨(acc[i]).toArray⟩) (ho : w2.ownsRow B 9 1 v2 (R.length + 1) (R.map strV ++ [.string x])) (hg : ∀ k, k ∈ vb v2 → k ∈ vb rec ∨ (w1.alloc o).heap.size ≤ k) :
    GI w (w2.setCell ⟨bc, 7, none⟩ v2) B bc bb bf bs s ln st fd long text ends v2 tx en Z acc (R ++ [acc[i]]) (i + 1) := by
  subst hx
  refine { rd := (h.rd.far ((Upd.refl [] w1).alloc o) (by simp)).set7 (rn' := R ++ [acc[i]]) hu ?_ hg, be := ?_, re := ?_ }
  · rw [List.length_append, List.map_append]; exact ho
  · exact ((h.be.alloc hB o).trans (hu.below (by simp; omega) (fun k hk => (owns_lt h.rd.ro k hk).2))).setCell h.rd.cr.Bc _
  · rw [List.take_add_one, List.getElem?_eq_getElem hi, h.re]; rfl

theorem info3b : (Tryf.prog.info? 3).map (fun i => (i.zero, i.size, i.bytes)) = some (some (.int .i64 0), 1, 8) := by kernel_rfl

set_option maxRecDepth 100000 in
set_option maxHeartbeats 400000 in
theorem reads_nil (B bc bb bf bs : Nat) (s : ByteArray) (ln st : Int) (fd : Nat) (long text ends rec : Value) (tx : List UInt8) (en : List Nat) (rn : List (List UInt8)) (ea fa : Addr) (w : World)
    (h : RD w B bc bb bf bs s [] ln st fd long text ends rec tx en rn) (he : Errs w B ea fa) :
    Calls Tryf.prog 32 #[.pointer (some ⟨bc, 0, none⟩)] w fun e w' => ROut w B bc bb bf bs s [] fd ea e w' := by
  have q := rd_nil B bc bb bf bs s ln st fd long text ends rec tx en rn ea fa w h he
  go_enter Tryf.func32, Tryf.ntmps32
  go_wp2_with fail
  go_fit q
  rintro e w1 ⟨rfl, hb1⟩
  clear q
  go_wp2_with fail
  refine wp_loop_rounds 1 ?_; rw [rounds_succ]
  go_wp2_with fail
  go_ret2
  exact .inl ⟨rfl, rfl, hb1⟩

set_option maxRecDepth 100000 in
set_option maxHeartbeats 2000000 in
theorem reads_some (F : Go.Stop.Interp) (B bc bb bf bs : Nat) (s : ByteArray) (T : List UInt8) (ln st : Int) (fd : Nat) (long text ends rec : Value) (tx : List UInt8) (en : List Nat) (rn : List (List UInt8)) (ea fa : Addr) (w : World)
    (h : RD w B bc bb bf bs s T ln st fd long text ends rec tx en rn) (he : Errs w B ea fa) (hF : F.answers w.tape) (hT : T ≠ []) :
    Calls Tryf.prog 32 #[.pointer (some ⟨bc, 0, none⟩)] w fun e w' => ROut w B bc bb bf bs s T fd ea e w' := by
  have hBs := he.sz
  obtain ⟨p5, c5, rfl⟩ := own_form' h.ot
  obtain ⟨p6, c6, rfl⟩ := own_form' h.oe
  obtain ⟨p7, c7, rfl⟩ := own_form' h.ro
  have q := rd_line B bc bb bf bs s T ln st fd long _ _ _ tx en rn ea fa w h he hT
  have HR := hid h
  clear h
  go_enter Tryf.func32, Tryf.ntmps32
  go_wp2_with fail
  go_fit q
  rintro e w1 ⟨v1, long1, b1, rfl, hl1, hr1, hb1, hbe1⟩
  clear q
  have HB := hid (BI.of (T := T) hT HR.out hl1 hr1 hb1 rfl hbe1)
  clear hl1 hr1 hb1 hbe1
  go_wp2_with fail
  go_loopg [4, 5] (T.length + 1) (fun k t4 t5 wr => (t5 = errV ea ∧ unbl T = [] ∧ Below B w wr) ∨ (t5 = .nilIface ∧ ∃ (X : List UInt8) (ln' : Int) (long' : Value) (b' : Nat), X.length < k ∧ BI w wr B bc bb bf bs s ln' st fd long' (.slice p5 tx.length c5) (.slice p6 en.length c6) (.slice p7 rn.length c7) tx en rn T X t4 b'))
  case atStart => exact .inr ⟨rfl, T, _, _, _, by omega, HB.out⟩
  case round =>
    clear HB
    rcases hrel with ⟨rfl, hsk, hbe⟩ | ⟨rfl, X, ln', long', b', hk, hbi⟩
    · have HS := hid hsk
      clear hsk
      go_wp2_with fail
      go_ret2
      exact .inl ⟨HS.out, rfl, hbe⟩
    · obtain ⟨L, hLe⟩ : ∃ L, L = fl X := ⟨_, rfl⟩
      have hli := hbi.li
      rw [← hLe] at hli
      obtain ⟨a, c, rfl, hlc, hcm⟩ := hli.form
      have q := trimBreak_any wr hli (hbi.rd.cr.inlt b' (line_in hbi.hb))
      obtain ⟨M, hM⟩ : ∃ M, M = trim L := ⟨_, rfl⟩
      rw [← hM] at q
      have HLE := hid hLe
      have HM := hid hM
      have HBI := hid hbi
      have HLI := hid hli
      clear hLe hM hbi hli
      go_wp2_with fail
      go_fit q
      rintro e w2 ⟨rfl, hu2⟩
      clear q
      have hBr := Nat.le_trans hBs HBI.out.be.size
      have HR2 := hid (HBI.out.rd.far hu2 (by simp))
      have HB2 := hid (HBI.out.be.trans (hu2.below hBr (by simp)))
      have he2 := he.below HB2.out
      by_cases hm : M.length = 0
      · have hm0 : ((M.length : Int) == 0) = true := by simp [hm]
        have hz : trim (fl X) = [] := by rw [← HLE.out, ← HM.out]; exact List.eq_nil_of_length_eq_zero hm
        have HSK := hid (HBI.out.eq.trans (unbl_blank X hz))
        have hxl := fl_pos X HBI.out.ne
        have hxm := fl_le X
        clear hm hz
        by_cases hT1 : X.drop (fl X).length = []
        · have hrd := HR2.out
          rw [hT1] at hrd
          have q := rd_nil B bc bb bf bs s ln' st fd long' _ _ _ tx en rn ea fa w2 hrd he2
          go_wp2_with fail
          go_fit q
          rintro e w3 ⟨rfl, hb3⟩
          clear q hrd
          go_wp2_with fail
          go_roundg (gk - 1)
          case measure => omega
          case rel => exact .inl ⟨rfl, by rw [HSK.out, hT1]; rfl, HB2.out.trans hb3⟩
        · have q := rd_line B bc bb bf bs s _ ln' st fd long' _ _ _ tx en rn ea fa w2 HR2.out he2 hT1
          go_wp2_with fail
          go_fit q
          rintro e w3 ⟨v3, long3, b3, rfl, hl3, hr3, hbb3, hb3⟩
          clear q
          have HN := hid (BI.of hT1 HR2.out hl3 hr3 hbb3 HSK.out (HB2.out.trans hb3))
          clear hl3 hr3 hbb3 hb3
          go_wp2_with fail
          go_roundg (gk - 1)
          case measure => omega
          case rel => exact .inr ⟨rfl, _, _, _, _, by rw [List.length_drop]; omega, HN.out⟩
      · have hm0 : ((M.length : Int) == 0) = false := by rw [beq_eq_false_iff_ne]; omega
        have hz : trim (fl X) ≠ [] := by
          rw [← HLE.out, ← HM.out]
          intro e
          rw [e] at hm
          exact hm rfl
        have HSK := hid (HBI.out.eq.trans (unbl_stop X hz))
        have HLI2 := hid (HLI.out.far hu2 (HBI.out.rd.cr.inlt b' (line_in HBI.out.hb)) (by simp))
        clear hm hz
        have c1 : w2.cell? ⟨bc, 1, none⟩ = some (.int .i64 ln') := Joins.cell_of_block HR2.out.cr.hc 1
        have c2 : w2.cell? ⟨bc, 2, none⟩ = some (.int .i64 st) := Joins.cell_of_block HR2.out.cr.hc 2
        have f2 : w2.frozen? ⟨bc, 2, none⟩ = false := Joins.unfrozen_of_block HR2.out.cr.hc 2
        go_wp2_with fail
        have HR3 := hid (HR2.out.set2 ln')
        have HB3 := hid (HB2.out.setCell HR2.out.cr.Bc (p := ⟨bc, 2, none⟩) (.int .i64 ln'))
        have HLI3 := hid (HLI2.out.upd (heap_set_other (w := w2) (p := ⟨bc, 2, none⟩) (.int .i64 ln') (by
          show b' ≠ bc
          rcases HBI.out.hb with rfl | hb
          · exact ne_sym HR2.out.cr.cf
          · exact (HR2.out.cr.dl b' hb).1)))
        obtain ⟨w3, hw3⟩ : ∃ w3, w3 = w2.setCell ⟨bc, 2, none⟩ (.int .i64 ln') := ⟨_, rfl⟩
        rw [← hw3] at HR3 HB3 HLI3 ⊢
        clear hw3 c1 c2 f2 HR2 HB2 HLI2 he2 hu2
        have d5 : w3.cell? ⟨bc, 5, none⟩ = some (.slice p5 tx.length c5) := Joins.cell_of_block HR3.out.cr.hc 5
        have d6 : w3.cell? ⟨bc, 6, none⟩ = some (.slice p6 en.length c6) := Joins.cell_of_block HR3.out.cr.hc 6
        have f5 : w3.frozen? ⟨bc, 5, none⟩ = false := Joins.unfrozen_of_block HR3.out.cr.hc 5
        have f6 : w3.frozen? ⟨bc, 6, none⟩ = false := Joins.unfrozen_of_block HR3.out.cr.hc 6
        go_region
        have HR4 := hid ((((HR3.out.set5 (tx' := []) (Upd.refl _ _) (own_zero HR3.out.ot) (fun k hk => .inl (vb_any hk))).set6 (en' := []) (Upd.refl _ _) (own_zero (HR3.out.set5 (tx' := []) (Upd.refl _ _) (own_zero HR3.out.ot) (fun k hk => .inl (vb_any hk))).oe) (fun k hk => .inl (vb_any hk))).far ((Upd.refl [] _).drew) (by simp)))
        have HB4 := hid (((HB3.out.setCell HR3.out.cr.Bc (p := ⟨bc, 5, none⟩) (.slice p5 0 c5)).setCell HR3.out.cr.Bc (p := ⟨bc, 6, none⟩) (.slice p6 0 c6)).drew)
        have hbne : b' ≠ bc := by
          rcases HBI.out.hb with rfl | hb
          · exact ne_sym HR3.out.cr.cf
          · exact (HR3.out.cr.dl b' hb).1
        have HLI4 := hid (HLI3.out.upd (show ((w3.setCell ⟨bc, 5, none⟩ (.slice p5 0 c5)).setCell ⟨bc, 6, none⟩ (.slice p6 0 c6)).drew.heap[b']? = _ from (heap_set_other _ (by exact hbne)).trans (heap_set_other _ (by exact hbne))))
        obtain ⟨w4, hw4⟩ : ∃ w4, w4 = ((w3.setCell ⟨bc, 5, none⟩ (.slice p5 0 c5)).setCell ⟨bc, 6, none⟩ (.slice p6 0 c6)).drew := ⟨_, rfl⟩
        rw [← hw4] at HR4 HB4 HLI4 ⊢
        clear hw4 d5 d6 f5 f6 HR3 HB3 HLI3
        have hXs := HBI.out.sz
        have HFI := hid (show FI w w4 B bc bb bf bs s ln' ln' fd long' (.slice p5 0 c5) (.slice p6 0 c6) (.slice p7 rn.length c7) [] [] rn X X [] (.slice (some a) L.length c) b' from
          { rd := HR4.out, li := by rw [← HLE.out]; exact HLI4.out, hb := HBI.out.hb, eq := (aheadF_nil _).symm, te := rfl, ee := rfl, be := HB4.out, c1 := by simpa using hXs, c2 := by simpa using hXs })
        have HLX := hid HBI.out.lx
        have HNE := hid HBI.out.ne
        have hszs := HR4.out.cr.rs.sz
        clear HR4 HB4 HLI4 HBI HLE HM HLI
        obtain ⟨i3, hi3, hz30, hz31, hz32⟩ := info_parts info3b
        go_wp2_with fail
        go_loopg [4, 5, 6, 7] (X.length + 2) (fun k t4 t5 t6 t7 wr => (t7 = .bool true ∧ ∃ (Y : List UInt8) (acc : List (List UInt8)) (ln2 : Int) (long2 text2 ends2 : Value) (b2 : Nat) (tx2 : List UInt8) (en2 : List Nat), t6 = .int .i64 (acc.length + 1) ∧ Y.length + 1 < k ∧ FI w wr B bc bb bf bs s ln2 ln' fd long2 text2 ends2 (.slice p7 rn.length c7) tx2 en2 rn X Y acc t4 b2) ∨
          (t7 = .bool false ∧ ∃ (Z : List UInt8) (acc : List (List UInt8)) (ln2 : Int) (long2 text2 ends2 : Value) (tx2 : List UInt8) (en2 : List Nat), FE w wr B bc bb bf bs s ln2 ln' fd long2 text2 ends2 (.slice p7 rn.length c7) tx2 en2 rn X Z acc))
        case atStart => exact .inl ⟨rfl, X, [], _, _, _, _, _, _, _, rfl, by omega, HFI.out⟩
        case round =>
          clear HFI
          rcases hrel with ⟨rfl, Y, acc, ln2, long2, text2, ends2, b2, tx2, en2, rfl, hk2, hfi⟩ | ⟨rfl, Z, acc, ln2, long2, text2, ends2, tx2, en2, hfe⟩
          · obtain ⟨pe, ce, rfl⟩ := own_form' hfi.rd.oe
            have he5 := he.below hfi.be
            have hF5 : F.answers wr.tape := by rw [hfi.be.tape]; exact hF
            have hc1 := hfi.c1
            have hc2 := hfi.c2
            have q := field_any F B bc bb bf bs s _ ln2 ln' fd long2 text2 _ _ tx2 en2 rn Y _ b2 (acc.length + 1) ea fa wr hfi.rd he5 hF5 hfi.li hfi.hb rfl (by omega)
            have HFI := hid hfi
            clear hfi
            go_wp2_with fail
            go_fit q
            rintro e w6 hq
            clear q
            rcases hq with ⟨a6, hf0, rfl, hbad⟩ | ⟨t, Z, v6, b6, long6, text6, ln6, hf0, rfl, hl6, hb6, hr6, hbe6⟩ | ⟨t, Z, v6, long6, text6, ln6, hf0, rfl, hr6, hbe6⟩
            · have HF0 := hid hf0
              clear hf0
              go_wp2_with fail
              go_ret2
              exact .inr (.inl ⟨a6, by rw [HSK.out]; exact HNE.out, .inl (by rw [HSK.out, HFI.out.eq, rc_bad HF0.out]; rfl), rfl, Bad.trans HFI.out.be hbad⟩)
            · obtain ⟨tq, htq⟩ : ∃ tq, tq = tx2 ++ t := ⟨_, rfl⟩
              rw [← htq] at hr6
              obtain ⟨pt, ct, rfl⟩ := own_form' hr6.ot
              have d5 : w6.cell? ⟨bc, 5, none⟩ = some (.slice pt tq.length ct) := Joins.cell_of_block hr6.cr.hc 5
              have d6 : w6.cell? ⟨bc, 6, none⟩ = some (.slice pe en2.length ce) := Joins.cell_of_block hr6.cr.hc 6
              have hB6 := Nat.le_trans hBs (HFI.out.be.trans hbe6).size
              have hbc := hr6.cr.lts.1
              have hen : en2.length ≤ 4194304 := by rw [HFI.out.ee, psums_length]; omega
              have HR6 := hid hr6
              have HTQ := hid htq
              have HF0 := hid hf0
              have HL6 := hid hl6
              clear hr6 htq hf0 hl6
              go_wp2_with fail
              go_region_law (first | (refine step_app rfl (.tmp 74) (.tmp 80) 39 rfl B 3 i3 (.int .i64 0) 1 8 Tryf.underlying39 hi3 hz30 hz31 hz32 rfl (by decide) (.slice pe en2.length ce) en2.length (intsV en2) (by simp [Act.eval]) (by exact HR6.out.oe.alloc _) ⟨w6.heap.size, 0, none⟩ 1 1 [.int .i64 (tq.length : Int)] (by simp [Act.eval]) rfl (by exact cell_one_new _ _ _) (by intro u hu; simp at hu; subst hu; rfl) (by unfold maxLen; omega) (by omega) (by simp; omega) ?_; intro p8 cap8 w8 HO8 hu8 hg8; have k6 : w8.cell? ⟨bc, 6, none⟩ = some (.slice pe en2.length ce) := Joins.cell_of_block (hu8.heap (HR6.out.far ((Upd.refl [] w6).alloc _) (by simp)).cr.hc (fun hm => (HR6.out.de bc hm).1 (by simp))) 6; have g6 : w8.frozen? ⟨bc, 6, none⟩ = false := Joins.unfrozen_of_block (hu8.heap (HR6.out.far ((Upd.refl [] w6).alloc _) (by simp)).cr.hc (fun hm => (HR6.out.de bc hm).1 (by simp))) 6))
              all_goals
                have HA := hid (HR6.out.addEnd (.cells #[.int .i64 (tq.length : Int)] 3 (0, 0)) hB6 (HFI.out.be.trans hbe6) (Upd.like hu8 rfl rfl rfl rfl) HO8 hg8)
                have HN := hid (HFI.out.more HF0.out HTQ.out HA.out.1 (HL6.out.upd (HA.out.2.2 b6 hb6)) hb6 HA.out.2.1)
                have hsh := HN.out.2
                clear HO8 hu8 hg8 k6 g6 d5 d6
                go_wp2_with fail
                go_roundg (gk - 1)
                case measure => omega
                case rel => exact .inl ⟨rfl, _, _, _, _, _, _, _, _, _, by simp, by omega, HN.out.1⟩
            · obtain ⟨tq, htq⟩ : ∃ tq, tq = tx2 ++ t := ⟨_, rfl⟩
              rw [← htq] at hr6
              obtain ⟨pt, ct, rfl⟩ := own_form' hr6.ot
              have d5 : w6.cell? ⟨bc, 5, none⟩ = some (.slice pt tq.length ct) := Joins.cell_of_block hr6.cr.hc 5
              have d6 : w6.cell? ⟨bc, 6, none⟩ = some (.slice pe en2.length ce) := Joins.cell_of_block hr6.cr.hc 6
              have hB6 := Nat.le_trans hBs (HFI.out.be.trans hbe6).size
              have hbc := hr6.cr.lts.1
              have hen : en2.length ≤ 4194304 := by rw [HFI.out.ee, psums_length]; omega
              have HR6 := hid hr6
              have HTQ := hid htq
              have HF0 := hid hf0
              clear hr6 htq hf0
              go_wp2_with fail
              go_region_law (first | (refine step_app rfl (.tmp 74) (.tmp 80) 39 rfl B 3 i3 (.int .i64 0) 1 8 Tryf.underlying39 hi3 hz30 hz31 hz32 rfl (by decide) (.slice pe en2.length ce) en2.length (intsV en2) (by simp [Act.eval]) (by exact HR6.out.oe.alloc _) ⟨w6.heap.size, 0, none⟩ 1 1 [.int .i64 (tq.length : Int)] (by simp [Act.eval]) rfl (by exact cell_one_new _ _ _) (by intro u hu; simp at hu; subst hu; rfl) (by unfold maxLen; omega) (by omega) (by simp; omega) ?_; intro p8 cap8 w8 HO8 hu8 hg8; have k6 : w8.cell? ⟨bc, 6, none⟩ = some (.slice pe en2.length ce) := Joins.cell_of_block (hu8.heap (HR6.out.far ((Upd.refl [] w6).alloc _) (by simp)).cr.hc (fun hm => (HR6.out.de bc hm).1 (by simp))) 6; have g6 : w8.frozen? ⟨bc, 6, none⟩ = false := Joins.unfrozen_of_block (hu8.heap (HR6.out.far ((Upd.refl [] w6).alloc _) (by simp)).cr.hc (fun hm => (HR6.out.de bc hm).1 (by simp))) 6))
              all_goals
                have HA := hid (HR6.out.addEnd (.cells #[.int .i64 (tq.length : Int)] 3 (0, 0)) hB6 (HFI.out.be.trans hbe6) (Upd.like hu8 rfl rfl rfl rfl) HO8 hg8)
                have HN := hid (HFI.out.last HF0.out HTQ.out HA.out.1 HA.out.2.1)
                clear HO8 hu8 hg8 k6 g6 d5 d6
                go_wp2_with fail
                go_roundg (gk - 1)
                case measure => omega
                case rel => exact .inr ⟨rfl, _, _, _, _, _, _, _, _, HN.out⟩
          · obtain ⟨ge, ce, rfl, _, _⟩ := hfe.rd.oe.form (by rw [hfe.ee, psums_length]; exact hfe.ne)
            have d3 : wr.cell? ⟨bc, 3, none⟩ = some (.int .i64 fd) := Joins.cell_of_block hfe.rd.cr.hc 3
            have d6 : wr.cell? ⟨bc, 6, none⟩ = some (.slice (some ⟨ge, 0, none⟩) en2.length ce) := Joins.cell_of_block hfe.rd.cr.hc 6
            have d2 : wr.cell? ⟨bc, 2, none⟩ = some (.int .i64 ln') := Joins.cell_of_block hfe.rd.cr.hc 2
            have f3 : wr.frozen? ⟨bc, 3, none⟩ = false := Joins.unfrozen_of_block hfe.rd.cr.hc 3
            have HFE := hid hfe
            have hel : en2.length = acc.length := by rw [hfe.ee, psums_length]
            have HEL := hid hel
            clear hel hfe
            have hBr := Nat.le_trans hBs HFE.out.be.size
            obtain ⟨i9, hi9, hz90, hz91, hz92⟩ := info_parts info9b
            obtain ⟨S, hS⟩ : ∃ S : ByteArray, S = ⟨tx2.toArray⟩ := ⟨_, rfl⟩
            have d5 : wr.cell? ⟨bc, 5, none⟩ = some text2 := Joins.cell_of_block HFE.out.rd.cr.hc 5
            have d7 : wr.cell? ⟨bc, 7, none⟩ = some (.slice p7 rn.length c7) := Joins.cell_of_block HFE.out.rd.cr.hc 7
            have f7 : wr.frozen? ⟨bc, 7, none⟩ = false := Joins.unfrozen_of_block HFE.out.rd.cr.hc 7
            have hbc := HFE.out.rd.cr.lts.1
            have HS := hid hS
            clear hS
            rcases (show (fd ≠ 0 ∧ en2.length ≠ fd) ∨ fd = 0 ∨ (fd ≠ 0 ∧ en2.length = fd) by omega) with ⟨hfd, hne⟩ | hfd | ⟨hfd, hne⟩
            · have hfb : ((fd : Int) == 0) = false := by rw [beq_eq_false_iff_ne]; omega
              have hnb2 : ((en2.length : Int) == (fd : Int)) = false := by rw [beq_eq_false_iff_ne]; omega
              have hnb : ((en2.length : Int) != (fd : Int)) = true := by simp [bne, hnb2]
              have hF6 : F.answers wr.tape := by rw [HFE.out.be.tape]; exact hF
              go_wp2_with fail
              go_quiet (fail)
              go_wp2_with fail
              go_region_held3 (fun w' => w'.cell? ⟨bc, 2, none⟩ = some (.int .i64 ln') ∧ w'.cell? ⟨bc, 3, none⟩ = some (.int .i64 fd) ∧ w'.cell? ⟨bc, 6, none⟩ = some (.slice (some ⟨ge, 0, none⟩) en2.length ce)) (go_keep) (first | (go_at_call 43; go_fit (errorf3 F fmD ln' en2.length fd wr.heap.size _ (by exact hF6) (Joins.cell_of_block (al_new _ _ _ rfl) 0) (Joins.cell_of_block (al_new _ _ _ rfl) 1) (Joins.cell_of_block (al_new _ _ _ rfl) 2) prD); rintro e w9 ⟨t, rfl, rfl⟩))
              go_wp2_with fail
              go_ret2
              have hb9 : Below B w (wr.drewN (nq + 1)) := ⟨HFE.out.be.os, HFE.out.be.tape, HFE.out.be.output, HFE.out.be.size, HFE.out.be.block⟩
              exact .inr (.inl ⟨_, by rw [HSK.out]; exact HNE.out, .inr ⟨acc, Z, by rw [HSK.out]; exact HFE.out.eq, hfd, by rw [← HEL.out]; exact hne⟩, rfl, Bad.at (Bad.mk' hb9 hBr _ t) (by simp)⟩)
            have hfb : ((fd : Int) == 0) = true := by simp [hfd]
            have HFD := hid (show fd = 0 ∨ acc.length = fd from .inl hfd)
            have HR5 := hid (HFE.out.rd.set3 (en2.length : Int))
            have hcv : (convert 43 9 text2).run Tryf.prog (wr.setCell ⟨bc, 3, none⟩ (.int .i64 (en2.length : Int))) = .ok (.string S) (wr.setCell ⟨bc, 3, none⟩ (.int .i64 (en2.length : Int))) := by rw [HS.out]; exact conv_own HR5.out.ot
            have HR8 := hid (HR5.out.set7 (rn' := []) (Upd.refl _ _) (own_zero HR5.out.ro) (fun k hk => .inl (vb_any hk)))
            have HB8 := hid ((HFE.out.be.setCell HFE.out.rd.cr.Bc (p := ⟨bc, 3, none⟩) (.int .i64 (en2.length : Int))).setCell HFE.out.rd.cr.Bc (p := ⟨bc, 7, none⟩) (.slice p7 0 c7))
            clear hfd
            go_wp2_with fail
            obtain ⟨w8, hw8⟩ : ∃ w8, w8 = (wr.setCell ⟨bc, 3, none⟩ (.int .i64 (en2.length : Int))).setCell ⟨bc, 7, none⟩ (.slice p7 0 c7) := ⟨_, rfl⟩
            rw [← hw8] at HR8 HB8 ⊢
            clear hw8 HR5 hcv d2 d3 d6 d5 d7 f3 f7
            rotate_left
            have hfb : ((fd : Int) == 0) = false := by rw [beq_eq_false_iff_ne]; omega
            have HFD := hid (show fd = 0 ∨ acc.length = fd from .inr (HEL.out.symm.trans hne))
            have hnb : ((en2.length : Int) != (fd : Int)) = false := by simp [hne]
            have hnb2 : ((en2.length : Int) == (fd : Int)) = true := by simp [hne]
            clear hfd
            replace hne := hid hne
            go_wp2_with fail
            go_quiet (fail)
            have HR5 := hid (show RD (wr.drewN nq) B bc bb bf bs s Z ln2 ln' (en2.length : Nat) long2 text2 (.slice (some ⟨ge, 0, none⟩) en2.length ce) (.slice p7 rn.length c7) tx2 en2 rn by have hh := HFE.out.rd.drewN nq; rw [← hne.out] at hh; exact hh)
            have hcv : (convert 43 9 text2).run Tryf.prog (wr.drewN nq) = .ok (.string S) (wr.drewN nq) := by rw [HS.out]; exact conv_own HR5.out.ot
            have HR8 := hid (HR5.out.set7 (rn' := []) (Upd.refl _ _) (own_zero HR5.out.ro) (fun k hk => .inl (vb_any hk)))
            have HB8 := hid ((show Below B w (wr.drewN nq) from ⟨HFE.out.be.os, HFE.out.be.tape, HFE.out.be.output, HFE.out.be.size, HFE.out.be.block⟩).setCell HFE.out.rd.cr.Bc (p := ⟨bc, 7, none⟩) (.slice p7 0 c7))
            go_wp2_with fail
            obtain ⟨w8, hw8⟩ : ∃ w8, w8 = (wr.drewN nq).setCell ⟨bc, 7, none⟩ (.slice p7 0 c7) := ⟨_, rfl⟩
            rw [← hw8] at HR8 HB8 ⊢
            clear hw8 HR5 hcv d2 d3 d6 d5 d7 f3 f7 hnb hnb2
            rotate_left
            all_goals
              have HGI := hid (show GI w w8 B bc bb bf bs s ln2 ln' (en2.length : Nat) long2 text2 (.slice (some ⟨ge, 0, none⟩) en2.length ce) (.slice p7 0 c7) tx2 en2 Z acc [] 0 from { rd := HR8.out, be := HB8.out, re := rfl })
              clear HR8 HB8
              try simp only [hfb]
              go_loopg [9, 145] (acc.length + 1) (fun k t9 t145 wx => ∃ (i : Nat) (rec3 : Value) (R : List (List UInt8)), t9 = .int .i64 (pl acc i : Nat) ∧ t145 = .int .i64 (i : Nat) ∧ i ≤ acc.length ∧ acc.length - i < k ∧ GI w wx B bc bb bf bs s ln2 ln' (en2.length : Nat) long2 text2 (.slice (some ⟨ge, 0, none⟩) en2.length ce) rec3 tx2 en2 Z acc R i)
              case atStart => exact ⟨0, _, [], by rw [pl_zero]; rfl, rfl, by omega, by omega, HGI.out⟩
              case round =>
                clear HGI
                obtain ⟨i, rec3, R, rfl, rfl, hi, hk3, hgi⟩ := hrel
                have d7 : wr.cell? ⟨bc, 7, none⟩ = some rec3 := Joins.cell_of_block hgi.rd.cr.hc 7
                have hRl : R.length ≤ acc.length := by rw [hgi.re, List.length_take]; omega
                have hBx := Nat.le_trans hBs hgi.be.size
                have hac := HFE.out.c2
                by_cases hlt : i < acc.length
                · obtain ⟨p8, c8, rfl⟩ := own_form' hgi.rd.ro
                  have f7 : wr.frozen? ⟨bc, 7, none⟩ = false := Joins.unfrozen_of_block hgi.rd.cr.hc 7
                  have dE : wr.cell? ⟨ge, i, none⟩ = some (.int .i64 (pl acc (i + 1) : Nat)) := own_cell hgi.rd.oe i _ (by
                    rw [intsV, List.getElem?_map, List.getElem?_eq_getElem (by rw [HEL.out]; exact hlt), Option.map_some]
                    congr 2
                    have := psums_get acc i (by rw [psums_length]; exact hlt)
                    rw [← this]
                    congr 1
                    simp only [HFE.out.ee])
                  have hSs : S.size = acc.flatten.length := by
                    rw [HS.out, HFE.out.te]; rfl
                  have hpc := piece_at acc i hlt
                  rw [← HFE.out.te, ← HS.out] at hpc
                  have h1 := pl_succ acc i hlt
                  have h2 := pl_le acc (i + 1)
                  have s1 : (pl acc i : Int) ≤ (pl acc (i + 1) : Nat) := by omega
                  have s2 : ((pl acc (i + 1) : Nat) : Int) ≤ S.size := by omega
                  have s0 : (0 : Int) ≤ (pl acc i : Nat) := by omega
                  have hI : (i : Int) < en2.length := by rw [HEL.out]; omega
                  have hbx := hgi.rd.cr.lts.1
                  have HPC := hid hpc
                  have HG := hid hgi
                  clear hpc hSs h1 h2 hgi
                  obtain ⟨e1, he1⟩ : ∃ e1, e1 = pl acc (i + 1) := ⟨_, rfl⟩
                  obtain ⟨e0, he0⟩ : ∃ e0, e0 = pl acc i := ⟨_, rfl⟩
                  rw [← he1] at dE HPC s1 s2
                  rw [← he0] at HPC s0 s1 ⊢
                  have HE1 := hid he1
                  clear he1 he0
                  go_wp2_with fail
                  go_region_law (first | (refine step_app rfl (.tmp 153) (.tmp 158) 24 rfl B 9 i9 (.string ⟨#[]⟩) 1 16 Tryf.underlying24 hi9 hz90 hz91 hz92 rfl (by decide) (.slice p8 R.length c8) R.length (R.map strV) (by simp [Act.eval]) (by exact HG.out.rd.ro.alloc _) ⟨wr.heap.size, 0, none⟩ 1 1 [.string (S.extract e0 e1)] (by simp [Act.eval]) rfl (by exact cell_one_new _ _ _) (by intro u hu; simp at hu; subst hu; rfl) (by unfold maxLen; omega) (by omega) (by simp; omega) ?_; intro p9 cap9 w9 HO9 hu9 hg9; have k7 : w9.cell? ⟨bc, 7, none⟩ = some (.slice p8 R.length c8) := Joins.cell_of_block (hu9.heap (HG.out.rd.far ((Upd.refl [] wr).alloc _) (by simp)).cr.hc (fun hm => (HG.out.rd.dr bc hm).1 (by simp))) 7; have g7 : w9.frozen? ⟨bc, 7, none⟩ = false := Joins.unfrozen_of_block (hu9.heap (HG.out.rd.far ((Upd.refl [] wr).alloc _) (by simp)).cr.hc (fun hm => (HG.out.rd.dr bc hm).1 (by simp))) 7))
                  all_goals
                    have HN := hid (HG.out.add (.cells #[.string (S.extract e0 e1)] 9 (0, 0)) hBx hlt (Upd.like hu9 rfl rfl rfl rfl) HPC.out HO9 hg9)
                    clear HO9 hu9 hg9 k7 g7 d7 f7 dE
                    go_wp2_with fail
                    go_roundg (gk - 1)
                    case measure => omega
                    case rel => exact ⟨i + 1, _, _, HE1.out ▸ rfl, by simp, by omega, by omega, HN.out⟩
                · have HG := hid hgi
                  clear hgi
                  have hI : ¬ ((i : Int) < en2.length) := by rw [HEL.out]; omega
                  go_wp2_with fail
                  go_ret2
                  have hrd := HG.out.rd
                  rw [HG.out.re, List.take_of_length_le (by omega), HEL.out] at hrd
                  exact .inr (.inr ⟨acc, Z, _, _, _, _, _, _, _, _, by rw [HSK.out]; exact HNE.out, by rw [HSK.out]; exact HFE.out.eq, HFD.out, rfl, hrd, by rw [HSK.out]; exact HLX.out, HG.out.be⟩)
end Go.Proofs.Qxb6613956aFmt.W
