/-
  (*Reader).quoted: what it reads is 'quo' of the text.
-/
import Derived.Test.Qxb6613956aFmtTrim
import Derived.Test.Qxb6613956aFmtErr2
import Derived.Deep.RegionLaw
namespace Go.Proofs.Qxb6613956aFmt.W
open Go.RowKit

theorem rcell {w : World} {bc bb : Nat} {ln st fd : Int} {long text ends rec : Value} (h : w.heap[bc]? = some (.cells (crow bb ln st fd long text ends rec) 69 (0, 0))) :
    w.cell? ⟨bc, 1, none⟩ = some (.int .i64 ln) ∧ w.cell? ⟨bc, 5, none⟩ = some text ∧ w.frozen? ⟨bc, 5, none⟩ = false :=
  ⟨Joins.cell_of_block h 1, Joins.cell_of_block h 5, Joins.unfrozen_of_block h 5⟩

/-- append onto a row of the call's own, as one step of a region that draws -/
theorem step_app {P : Program} {ops : Array Oper} {o : Oper} {a : Act} {w : World} {K : Act → World → Prop} {Q : Exit → Act → World → Prop} {E : Prop} (hgd : o.guard = none) (s x : Operand) (t : TypeId)
    (ho : o.op = .call { callee := .builtin .append, args := #[s, x], argTypes := #[t, t] })
    (base : Nat) (e : TypeId) (i : TypeInfo) (z : Value) (size bytes : Nat) (ht : P.underlying t = some (.slice e)) (hi : P.info? e = some i) (hz : i.zero = some z)
    (hsize : i.size = size) (hby : i.bytes = bytes) (hzs : z.cells.size = size) (hsz : 0 < size)
    (v : Value) (n : Nat) (xs : List Value) (hs : a.eval s = v) (hown : w.ownsRow base e size v n xs)
    (ad : Addr) (m c : Nat) (news : List Value) (hx : a.eval x = .slice (some ad) m c) (hl : news.length = m * size) (hnews : ∀ j u, news[j]? = some u → w.cell? (ad.add j) = some u) (h1 : ∀ u ∈ news, u.oneCell' = true)
    (h63 : n + m ≤ maxLen) (hbytes : (n + m) * bytes ≤ 140737488355328) (hbase : base ≤ w.heap.size)
    (hK : ∀ p cap w', w'.ownsRow base e size (.slice p (n + m) cap) (n + m) (xs ++ news) → Upd (vb v) w w' → (∀ k, k ∈ vb (.slice p (n + m) cap) → k ∈ vb v ∨ w.heap.size ≤ k) → K (a.put o.dst (.slice p (n + m) cap)) w') :
    if Region.wanted o (yielded ops a.tmps) = true then Oper.wp P o a w K Q else E := by
  have hw : Region.wanted o (yielded ops a.tmps) = true := by simp [Region.wanted, hgd]
  rw [if_pos hw]
  obtain ⟨v', w', hr, h2, h3, _, h5⟩ := run_append_own_at (P := P) w base t o.type e i z size bytes ht hi hz hsize hby hzs hsz v n xs hown ad m c news hl hnews h1 h63 hbytes hbase
  obtain ⟨p, cap, rfl⟩ : ∃ p c, v' = .slice p (n + m) c := by
    rcases h2.2 with ⟨rfl, hnm⟩ | ⟨g, cap, cur, rfl, _⟩
    · exact ⟨none, 0, by rw [hnm]⟩
    · exact ⟨_, cap, rfl⟩
  unfold Oper.wp execOp
  simp only [ho, resolve, invoke, builtin, Sem.run_bind, Sem.run_pure, Result.andThen_ok, List.map_toArray, List.map_cons, List.map_nil, hs, hx, hr]
  refine hK p cap w' h2 (grown_upd h3 (fun k hk => (ownBlock_vb v k).1 hk)) (fun k hk => ?_)
  have hk' := (ownBlock_vb _ k).2 hk
  rcases h5 with h5 | h5
  · exact .inl ((ownBlock_vb v k).1 (by rw [← h5]; exact hk'))
  · right
    rw [hk'] at h5
    have : k = w.heap.size := by simpa using h5
    omega

/-- an error that the call has made itself: it is neither nil nor io.EOF -/
structure Bad (w w' : World) (B : Nat) (a : Addr) : Prop where
  lo : B ≤ a.block
  row : ∃ c t, w'.heap[a.block]? = some (.cells c t (0, 0))
  be : Below B w w'

theorem Bad.mk' {w w3 : World} {B : Nat} (hb : Below B w w3) (hB : B ≤ w3.heap.size) (o : Obj) (t : ByteArray) : Bad w ((w3.alloc o).alloc (.cells #[.string t] 131)).drew B ⟨(w3.alloc o).heap.size, 0, none⟩ :=
  ⟨by simp; omega, ⟨_, _, al_new _ _ _ rfl⟩, ((hb.alloc hB o).alloc (by simp; omega) _).drew⟩

theorem Bad.at {w w' : World} {B : Nat} {a b : Addr} (h : Bad w w' B a) (e : a = b) : Bad w w' B b := e ▸ h

/-- what quoted keeps in its loop -/
structure QI (w wr : World) (B bc bb bf bs : Nat) (s : ByteArray) (ln st fd : Int) (long text ends rec : Value) (tx acc tc : List UInt8) (en : List Nat) (rn : List (List UInt8)) (Y Y' L : List UInt8) (v : Value) (b : Nat) : Prop where
  rd : RD wr B bc bb bf bs s (Y'.drop (fl Y').length) ln st fd long text ends rec tc en rn
  te : tc = tx ++ acc
  le : L = fl Y'
  li : LineIn wr b v L
  hb : b = bf ∨ b ∈ vb long
  eq : quo Y = ahead acc (quo Y')
  be : Below B w wr
  ct : acc.length + Y'.length ≤ Y.length

theorem not_text {w : World} {B bc bb bf bs : Nat} {s : ByteArray} {T : List UInt8} {ln st fd : Int} {long text ends rec : Value} {tx : List UInt8} {en : List Nat} {rn : List (List UInt8)} (h : RD w B bc bb bf bs s T ln st fd long text ends rec tx en rn) : bc ∉ vb text := fun hm => h.dt bc hm (by simp)
theorem line_in {bc bb bf bs b : Nat} {long : Value} (hb : b = bf ∨ b ∈ vb long) : b ∈ [bc, bb, bf, bs] ++ vb long := by
  rcases hb with rfl | hb
  · simp
  · simp [hb]

theorem Upd.undrew {S : List Nat} {a b : World} (h : Upd S a.drew b) : Upd S a b := ⟨h.os, h.tape, h.output, h.size, h.block⟩

section
variable {w wr : World} {B bc bb bf bs : Nat} {s : ByteArray} {ln st fd : Int} {long text ends rec : Value} {tx acc tc : List UInt8} {en : List Nat} {rn : List (List UInt8)} {Y Y' L : List UInt8} {v : Value} {b : Nat}
theorem QI.blt (h : QI w wr B bc bb bf bs s ln st fd long text ends rec tx acc tc en rn Y Y' L v b) : b < wr.heap.size := h.rd.cr.inlt b (line_in h.hb)
theorem QI.bnt (h : QI w wr B bc bb bf bs s ln st fd long text ends rec tx acc tc en rn Y Y' L v b) : b ∉ vb text := fun hm => h.rd.dt b hm (line_in h.hb)
theorem QI.grow {w2 : World} {v2 : Value} {M : List UInt8} (h : QI w wr B bc bb bf bs s ln st fd long text ends rec tx acc tc en rn Y Y' L v b) (hB : B ≤ wr.heap.size) (hu : Upd (vb text) wr w2) (ho : w2.ownsRow B 5 1 v2 (tc.length + M.length) (Lib.byteCells tc ++ Lib.byteCells M)) (hg : ∀ k, k ∈ vb v2 → k ∈ vb text ∨ wr.heap.size ≤ k) :
    RD (w2.setCell ⟨bc, 5, none⟩ v2) B bc bb bf bs s (Y'.drop (fl Y').length) ln st fd long v2 ends rec (tc ++ M) en rn ∧ Below B w (w2.setCell ⟨bc, 5, none⟩ v2) ∧ (w2.setCell ⟨bc, 5, none⟩ v2).heap[b]? = wr.heap[b]? := by
  refine ⟨h.rd.set5 (tx' := tc ++ M) hu (by rw [List.length_append, Lib.byteCells_append]; exact ho) hg, ?_, ?_⟩
  · exact h.be.trans ((hu.below hB h.rd.tblock).setCell h.rd.cr.Bc _)
  · have hne : b ≠ bc := by
      rcases h.hb with rfl | hb
      · exact ne_sym h.rd.cr.cf
      · exact (h.rd.cr.dl b hb).1
    rw [heap_set_other _ (by exact hne)]
    exact hu.block b h.blt h.bnt
/-- the next line, where this one holds no quote -/
theorem QI.next {w3 w4 : World} {v4 long4 text4 : Value} {b4 : Nat} (h : QI w wr B bc bb bf bs s ln st fd long text ends rec tx acc tc en rn Y Y' L v b) (hm : (34 : UInt8) ∉ L) (hb3 : Below B w w3) (hb4 : Below B w3 w4)
    (hl : LineIn w4 b4 v4 (fl (Y'.drop (fl Y').length))) (hr : RD w4 B bc bb bf bs s ((Y'.drop (fl Y').length).drop (fl (Y'.drop (fl Y').length)).length) (ln + 1) st fd long4 text4 ends rec (tc ++ L) en rn) (hb : b4 = bf ∨ b4 ∈ vb long4) :
    QI w w4 B bc bb bf bs s (ln + 1) st fd long4 text4 ends rec tx (acc ++ L) (tc ++ L) en rn Y (Y'.drop (fl Y').length) (fl (Y'.drop (fl Y').length)) v4 b4 := by
  have hfl := fl_le Y'
  have hct := h.ct
  have hm' := hm
  rw [h.le] at hm'
  exact { rd := hr, te := by rw [h.te, List.append_assoc], le := rfl, li := hl, hb := hb, eq := by rw [h.eq, quo_line hm', ahead_ahead, h.le], be := hb3.trans hb4, ct := by rw [List.length_append, List.length_drop, h.le]; omega }
theorem QI.short (h : QI w wr B bc bb bf bs s ln st fd long text ends rec tx acc tc en rn Y Y' L v b) (hT : Y'.drop (fl Y').length ≠ []) : (Y'.drop (fl Y').length).length < Y'.length := by
  have : Y' ≠ [] := by rintro rfl; simp at hT
  have := fl_pos Y' this
  have := fl_le Y'
  rw [List.length_drop]; omega
theorem QI.none (h : QI w wr B bc bb bf bs s ln st fd long text ends rec tx acc tc en rn Y Y' L v b) (hm : (34 : UInt8) ∉ L) (hT : Y'.drop (fl Y').length = []) : quo Y = none := by
  have hm' := hm
  rw [h.le] at hm'
  rw [h.eq, quo_line hm', hT]; rfl
end
theorem idx_line_at {b c N : Nat} {a : Addr} {p r L : List UInt8} (d : UInt8) (w : World) (h : LineIn w b (.slice (some a) N c) L) (hL : L = p ++ d :: r) (hp : d ∉ p) :
    Calls Tryf.prog 53 #[.slice (some a) N c, .int .u8 (d.toNat : Int)] w fun e w' => e = .returned (.int .i64 (p.length : Int)) ∧ w' = w := by
  obtain rfl := h.parts.1
  subst hL
  exact idx_line_hit d w h hp

theorem cut_at {w : World} {b o N c : Nat} {p r L : List UInt8} {d : UInt8} (h : LineIn w b (.slice (some ⟨b, o, none⟩) N c) L) (hL : L = p ++ d :: r) (a' : Addr) (ha : p.length + 1 < c → a' = ⟨b, o + (p.length + 1), none⟩) :
    LineIn w b (.slice (some a') (N - (p.length + 1)) (c - (p.length + 1))) r := by subst hL; exact cut_piece h a' ha

theorem RD.addQuote {w w3 w4 : World} {B bc bb bf bs b : Nat} {s : ByteArray} {T : List UInt8} {ln st fd : Int} {long text ends rec v4 : Value} {tq : List UInt8} {en : List Nat} {rn : List (List UInt8)} {x : UInt8} (h : RD w3 B bc bb bf bs s T ln st fd long text ends rec tq en rn) (o : Obj) (hB : B ≤ w3.heap.size) (hbe : Below B w w3) (hb : b = bf ∨ b ∈ vb long) (hu : Upd (vb text) (w3.alloc o) w4) (n : Nat) (hn : tq.length = n)
    (ho : w4.ownsRow B 5 1 v4 (n + 1) (Lib.byteCells tq ++ [.int .u8 (x.toNat : Int)])) (hg : ∀ k, k ∈ vb v4 → k ∈ vb text ∨ (w3.alloc o).heap.size ≤ k) :
    RD (w4.setCell ⟨bc, 5, none⟩ v4) B bc bb bf bs s T ln st fd long v4 ends rec (tq ++ [x]) en rn ∧ Below B w (w4.setCell ⟨bc, 5, none⟩ v4) ∧ (w4.setCell ⟨bc, 5, none⟩ v4).heap[b]? = w3.heap[b]? := by
  subst hn
  have hlt := h.cr.inlt b (line_in hb)
  refine ⟨(h.far ((Upd.refl [] w3).alloc o) (by simp)).set5 (tx' := tq ++ [x]) hu ?_ hg, ?_, ?_⟩
  · rw [List.length_append, Lib.byteCells_append]; exact ho
  · exact ((hbe.alloc hB o).trans (hu.below (by simp; omega) h.tblock)).setCell h.cr.Bc _
  · have hne : b ≠ bc := by
      rcases hb with rfl | hb
      · exact ne_sym h.cr.cf
      · exact (h.cr.dl b hb).1
    rw [heap_set_other _ (by exact hne), hu.block b (by simp; omega) (fun hm => h.dt b hm (line_in hb)), al_old _ _ _ hlt]

/-- how quoted ends -/
def QOut (w : World) (B bc bb bf bs : Nat) (s : ByteArray) (st fd : Int) (ends rec : Value) (tx : List UInt8) (en : List Nat) (rn : List (List UInt8)) (Y : List UInt8) (e : Ending) (w' : World) : Prop :=
  (∃ a, quo Y = none ∧ e = .returned (.tuple #[.slice none 0 0, errV a]) ∧ Bad w w' B a) ∨
  (∃ t Z v' b' long' text' ln', quo Y = some (t, Z) ∧ e = .returned (.tuple #[v', .nilIface]) ∧ LineIn w' b' v' (fl Z) ∧ (b' = bf ∨ b' ∈ vb long') ∧ RD w' B bc bb bf bs s (Z.drop (fl Z).length) ln' st fd long' text' ends rec (tx ++ t) en rn ∧ Below B w w')

/-- the quote at p, the piece r behind it -/
theorem QI.part {w wr w3 : World} {B bc bb bf bs : Nat} {s : ByteArray} {ln st fd : Int} {long text text3 ends rec : Value} {tx acc tc : List UInt8} {en : List Nat} {rn : List (List UInt8)} {Y Y' L p r : List UInt8} {v v3 : Value} {b : Nat}
    (h : QI w wr B bc bb bf bs s ln st fd long text ends rec tx acc tc en rn Y Y' L v b) (hL : L = p ++ 34 :: r) (hp : (34 : UInt8) ∉ p) (hr : RD w3 B bc bb bf bs s (Y'.drop (fl Y').length) ln st fd long text3 ends rec (tc ++ p) en rn) (hl : LineIn w3 b v3 r) (hb : Below B w w3) (hne : r.head? ≠ some 34) :
    QOut w B bc bb bf bs s st fd ends rec tx en rn Y (.returned (.tuple #[v3, .nilIface])) w3 := by
  obtain ⟨_, h2, h3, h4⟩ := fl_split (h.le.symm.trans hL) (by decide)
  refine .inr ⟨acc ++ p, Y'.drop (p.length + 1), v3, b, long, text3, ln, ?_, rfl, by rw [h3]; exact hl, h.hb, ?_, hb⟩
  · rw [h.eq]
    conv => lhs; rw [h2]
    rw [quo_end p _ hp (by rw [← fl_head, h3]; exact hne)]; rfl
  · rw [h3, ← h4, ← List.append_assoc, ← h.te]; exact hr

/-- two quotes: one goes into the text -/
theorem QI.twice {w wr w5 : World} {B bc bb bf bs : Nat} {s : ByteArray} {ln st fd : Int} {long text text5 ends rec : Value} {tx acc tc : List UInt8} {en : List Nat} {rn : List (List UInt8)} {Y Y' L p r : List UInt8} {v v5 : Value} {b : Nat}
    (h : QI w wr B bc bb bf bs s ln st fd long text ends rec tx acc tc en rn Y Y' L v b) (hL : L = p ++ 34 :: 34 :: r) (hp : (34 : UInt8) ∉ p) (hr : RD w5 B bc bb bf bs s (Y'.drop (fl Y').length) ln st fd long text5 ends rec (tc ++ p ++ [34]) en rn) (hl : LineIn w5 b v5 r) (hb : Below B w w5) :
    QI w w5 B bc bb bf bs s ln st fd long text5 ends rec tx (acc ++ (p ++ [34])) (tc ++ p ++ [34]) en rn Y (Y'.drop (p.length + 1)).tail r v5 b ∧ (Y'.drop (p.length + 1)).tail.length < Y'.length := by
  obtain ⟨_, h2, h3, h4⟩ := fl_split (h.le.symm.trans hL) (by decide)
  obtain ⟨h5, h6, h7⟩ := fl_cons h3 (by decide)
  have hlen := congrArg List.length h2
  have hct := h.ct
  rw [List.length_append, List.length_cons, h5] at hlen
  refine ⟨{ rd := ?_, te := by rw [h.te]; simp, le := h6.symm, li := hl, hb := h.hb, eq := ?_, be := hb, ct := ?_ }, ?_⟩
  · rw [h6, ← h7, h3, ← h4]; exact hr
  · rw [h.eq]
    conv => lhs; rw [h2, h5]
    rw [quo_two p _ hp, ahead_ahead]
  · simp at hlen ⊢; omega
  · simp at hlen ⊢; omega

set_option maxRecDepth 100000 in
set_option maxHeartbeats 1000000 in
theorem quoted_any (F : Go.Stop.Interp) (B bc bb bf bs : Nat) (s : ByteArray) (T : List UInt8) (ln st fd : Int) (long text ends rec : Value) (tx : List UInt8) (en : List Nat) (rn : List (List UInt8)) (Y : List UInt8) (v : Value) (b : Nat) (nf : Int) (ea fa : Addr) (w : World)
    (h : RD w B bc bb bf bs s T ln st fd long text ends rec tx en rn) (he : Errs w B ea fa) (hF : F.answers w.tape) (hL : LineIn w b v (fl Y)) (hb : b = bf ∨ b ∈ vb long) (hT : T = Y.drop (fl Y).length) (hsz : tx.length + Y.length ≤ 4194304) :
    Calls Tryf.prog 54 #[.pointer (some ⟨bc, 0, none⟩), v, .int .i64 nf] w fun e w' =>
      QOut w B bc bb bf bs s st fd ends rec tx en rn Y e w' := by
  obtain ⟨i0, hi, hz0, hz1, hz2⟩ := info_parts info5b
  have hBs := he.sz
  subst hT
  obtain ⟨c1, c5, f5⟩ := rcell h.cr.hc
  have HQ := hid (show QI w w B bc bb bf bs s ln st fd long text ends rec tx [] tx en rn Y Y (fl Y) v b from { rd := h, te := by simp, le := rfl, li := hL, hb := hb, eq := (ahead_nil _).symm, be := Below.refl _ _, ct := by simp })
  clear hL hb h
  go_enter Tryf.func54, Tryf.ntmps54
  go_wp2_with fail
  clear c1 c5 f5
  go_loopg [1] (Y.length + 1) (fun k t1 wr => ∃ (Y' acc tc L : List UInt8) (ln' : Int) (long' text' : Value) (b' : Nat), Y'.length < k ∧ QI w wr B bc bb bf bs s ln' st fd long' text' ends rec tx acc tc en rn Y Y' L t1 b')
  case atStart => exact ⟨Y, [], tx, fl Y, ln, long, text, b, by omega, HQ.out⟩
  case round =>
    clear HQ
    obtain ⟨Y', acc, tc, L, ln', long', text', b', hk, hq⟩ := hrel
    have hct := hq.ct
    have hbl := hq.blt
    obtain ⟨a, c, rfl, hlc, hcm⟩ := hq.li.form
    have HQ := hid hq
    clear hq
    have hBw := Nat.le_trans hBs HQ.out.be.size
    have htl : tc.length + L.length ≤ 4194304 := by
      have h1 := fl_le Y'
      rw [HQ.out.te, HQ.out.le, List.length_append]; omega
    by_cases hm : (34 : UInt8) ∈ L
    · obtain ⟨p, r, hpr, hp⟩ := first_split 34 L hm
      have q : Calls Tryf.prog 53 #[.slice (some a) L.length c, .int .u8 34] wr fun e w' => e = .returned (.int .i64 (p.length : Int)) ∧ w' = wr := idx_line_at 34 wr HQ.out.li hpr hp
      obtain ⟨o, rfl⟩ := HQ.out.li.at (by rw [hpr]; simp)
      have hN : L.length = p.length + 1 + r.length := by rw [hpr]; simp; omega
      have HPR := hid hpr
      have HN := hid hN
      have b0 : (0 : Int) ≤ p.length := by omega
      have b1 : (p.length : Int) + 1 ≤ L.length := by omega
      have b4 : (p.length : Int) ≤ c := by omega
      have b2 : (L.length : Int) ≤ c := by omega
      have b3 : (c : Int) ≤ 9223372036854775807 := by unfold maxLen at hcm; omega
      have hpl : tc.length + p.length ≤ 4194304 := by omega
      have HLP := hid (show LineIn wr b' (.slice (some ⟨b', o, none⟩) p.length c) p from HQ.out.li.pre ⟨34 :: r, hpr.symm⟩)
      have hne : b' ≠ bc := by
        rcases HQ.out.hb with rfl | hb
        · exact ne_sym HQ.out.rd.cr.cf
        · exact (HQ.out.rd.cr.dl b' hb).1
      clear hpr hN hm
      obtain ⟨c1, c5, f5⟩ := rcell HQ.out.rd.cr.hc
      go_wp2_with fail
      go_fit q
      rintro e w1 ⟨rfl, hw1⟩
      clear q
      subst hw1
      go_wp2_with fail
      go_region_law (first | (refine step_app rfl (.tmp 51) (.tmp 54) 43 rfl B 5 i0 (.int .u8 0) 1 1 Tryf.underlying43 hi hz0 hz1 hz2 rfl (by decide) text' tc.length (Lib.byteCells tc) (by simp [Act.eval]) HQ.out.rd.ot ⟨b', o, none⟩ p.length c (Lib.byteCells p) (by simp [Act.eval]) (by rw [Lib.byteCells_length]; omega) HLP.out.news (Lib.byteCells_one _) (by unfold maxLen; omega) (by omega) hBw ?_; intro p2 cap2 w2 HO2 hu2 hg2; obtain ⟨k1, k5, g5⟩ := rcell (hu2.heap HQ.out.rd.cr.hc (not_text HQ.out.rd))))
      have HG := hid (HQ.out.grow hBw (Upd.undrew hu2) HO2 hg2)
      obtain ⟨w3, hw3⟩ : ∃ w3, w3 = w2.setCell ⟨bc, 5, none⟩ (.slice p2 (tc.length + p.length) cap2) := ⟨_, rfl⟩
      rw [← hw3] at HG ⊢
      have HLI := hid (HQ.out.li.upd HG.out.2.2)
      clear hw3 hu2 HO2 hg2 k1 k5 g5 c1 c5 f5 HLP
      rcases r with _ | ⟨x, r⟩
      · have hl0 : L.length - (p.length + 1) = 0 := by have := HN.out; simp at this; omega
        go_wp2_with fail
        all_goals go_ret2
        · rename_i hc
          have := cut_at HLI.out HPR.out ⟨b', o, none⟩ (fun h => by omega)
          rw [hl0, show c - (p.length + 1) = 0 by omega] at this
          exact HQ.out.part HPR.out hp HG.out.1 this HG.out.2.1 (by simp)
        · have := cut_at HLI.out HPR.out ⟨b', o + (p.length + 1), none⟩ (fun h => rfl)
          rw [hl0] at this
          exact HQ.out.part HPR.out hp HG.out.1 this HG.out.2.1 (by simp)
      · have hl0 : L.length - (p.length + 1) = r.length + 1 := by have := HN.out; simp at this; omega
        have hc0 : ¬ c = p.length + 1 := by omega
        have HLX := hid (cut_at HLI.out HPR.out ⟨b', o + (p.length + 1), none⟩ (fun _ => rfl))
        obtain ⟨o3, ho3, hcx⟩ := HLX.out.parts.2.2.2 (by simp)
        have c0 : w3.cell? ⟨b', o + (p.length + 1), none⟩ = some (.int .u8 (x.toNat : Int)) := by
          have := hcx 0 (by simp)
          simp at ho3
          rw [← ho3] at this
          exact this
        clear hcx ho3
        by_cases hx : x = 34
        · subst hx
          have HX := HPR
          obtain ⟨c1, c5, f5⟩ := rcell HG.out.1.cr.hc
          have hbc := HG.out.1.cr.lts.1
          have hB3 := Nat.le_trans hBs HG.out.2.1.size
          have hll : (tc ++ p).length = tc.length + p.length := List.length_append
          have HLL := hid hll
          clear hll
          have hbb := HG.out.1.cr.inlt b' (line_in HQ.out.hb)
          have hc1 : (1 : Int) ≤ r.length + 1 := by omega
          have hc2 : (r.length : Int) + 1 ≤ (c - (p.length + 1) : Nat) := by omega
          go_wp2_with (first | (at_builtin; refine wpList_app0 rfl (.tmp 76) (.tmp 77) 43 rfl B 5 i0 (.int .u8 0) 1 1 Tryf.underlying43 hi hz0 hz1 hz2 rfl (by decide) (.slice p2 (tc.length + p.length) cap2) (tc.length + p.length) (Lib.byteCells (tc ++ p)) rfl (by have := HG.out.1.ot.alloc (.cells #[.int .u8 34] 5 (0, 0)); rw [HLL.out] at this; exact this) ⟨w3.heap.size, 0, none⟩ 1 1 [.int .u8 34] rfl rfl (cell_one_new _ _ _) (by intro u hu; simp at hu; subst hu; rfl) (by unfold maxLen; omega) (by omega) (by simp; omega) ?_; intro p4 cap4 w4 HO4 hu4 hg4; obtain ⟨k1, k5, g5⟩ := rcell (hu4.heap (HG.out.1.far ((Upd.refl [] w3).alloc _) (by simp)).cr.hc (not_text HG.out.1))))
          all_goals
            have HR4 := hid (HG.out.1.addQuote (x := 34) _ hB3 HG.out.2.1 HQ.out.hb hu4 _ HLL.out HO4 hg4)
            have HL4 := hid (HLX.out.upd HR4.out.2.2)
            rw [hl0] at HL4
            clear hu4 HO4 hg4 k1 k5 g5 c1 c5 f5 c0
          · have HL5 := cut_at (p := []) HL4.out rfl ⟨b', o + (p.length + 1), none⟩ (fun hh => by simp at hh; omega)
            rw [show c - (p.length + 1) - (([] : List UInt8).length + 1) = 0 by simp; omega] at HL5
            have HT := HQ.out.twice HPR.out hp HR4.out.1 HL5 HR4.out.2.1
            have hsh := HT.2
            go_roundg (gk - 1)
            case measure => omega
            case rel => exact ⟨_, _, _, _, _, _, _, _, by omega, HT.1⟩
          · have HL5 := cut_at (p := []) HL4.out rfl ⟨b', o + (p.length + 1) + 1, none⟩ (fun _ => rfl)
            have HT := HQ.out.twice HPR.out hp HR4.out.1 HL5 HR4.out.2.1
            have hsh := HT.2
            go_roundg (gk - 1)
            case measure => omega
            case rel => exact ⟨_, _, _, _, _, _, _, _, by omega, HT.1⟩
        · have hx2 : ((x.toNat : Int) == 34) = false := by
            rw [beq_eq_false_iff_ne]
            intro e
            exact hx (UInt8.toNat_inj.1 (Int.ofNat.inj e))
          have hx3 : ¬ ((x.toNat : Int) = 34) := by simpa using hx2
          have hx4 : ((x.toNat : Int) != 34) = true := by simpa using hx2
          go_wp2_with fail
          go_ret2
          have := HLX.out
          rw [hl0] at this
          exact HQ.out.part HPR.out hp HG.out.1 this HG.out.2.1 (by simpa using hx)
    · have q := idx_line_miss 34 wr HQ.out.li hm
      obtain ⟨c1, c5, f5⟩ := rcell HQ.out.rd.cr.hc
      go_wp2_with fail
      go_fit q
      rintro e w1 ⟨rfl, hw1⟩
      clear q
      subst hw1
      go_wp2_with (first | (at_builtin; refine wpList_app0 rfl (.tmp 23) (.tmp 24) 43 rfl B 5 i0 (.int .u8 0) 1 1 Tryf.underlying43 hi hz0 hz1 hz2 rfl (by decide) text' tc.length (Lib.byteCells tc) rfl HQ.out.rd.ot a L.length c (Lib.byteCells L) rfl (by rw [Lib.byteCells_length]; omega) HQ.out.li.news (Lib.byteCells_one _) (by unfold maxLen; omega) (by omega) hBw ?_; intro p2 cap2 w2 HO2 hu2 hg2; obtain ⟨k1, k5, g5⟩ := rcell (hu2.heap HQ.out.rd.cr.hc (not_text HQ.out.rd))))
      have HG := hid (HQ.out.grow hBw hu2 HO2 hg2)
      have he3 := he.below HG.out.2.1
      by_cases hT : Y'.drop (fl Y').length = []
      · have hrd := HG.out.1
        rw [hT] at hrd
        have q := rd_nil B bc bb bf bs s ln' st fd long' _ ends rec _ en rn ea fa _ hrd he3
        go_fit q
        rintro e w3 ⟨rfl, hb3⟩
        clear q hrd
        have hb3' := HG.out.2.1.trans hb3
        have he4 := he.below hb3'
        have e1 := he4.e
        have q1 := eql_same ea w3
        have hF3 : F.answers w3.tape := by rw [hb3'.tape]; exact hF
        clear hg2 HO2 hu2 k1 k5 g5 c1 c5 f5
        go_wp2_with fail
        go_fit (errorf2 F fmC ln nf w3.heap.size _ (by exact hF3) (by go_simp) (by go_simp) prC)
        rintro e w4 ⟨t, rfl, rfl⟩
        go_wp2_with fail
        go_ret2
        exact .inl ⟨_, HQ.out.none hm hT, rfl, Bad.at (Bad.mk' hb3' (Nat.le_trans hBs hb3'.size) _ t) (by simp)⟩
      · have q := rd_line B bc bb bf bs s _ ln' st fd long' _ ends rec _ en rn ea fa _ HG.out.1 he3 hT
        go_fit q
        rintro e w3 ⟨v3, long3, b3, rfl, hl3, hr3, hbb3, hb3⟩
        clear q
        have hb3' := HG.out.2.1.trans hb3
        have he4 := he.below hb3'
        have e1 := he4.e
        have q4 := fun a => eql_nil a w3
        have HN := hid (HQ.out.next hm HG.out.2.1 hb3 hl3 hr3 hbb3)
        have hsh := HQ.out.short hT
        clear hl3 hr3 hbb3 hb3 hg2 HO2 hu2 k1 k5 g5 c1 c5 f5
        go_wp2_with fail
        go_roundg (gk - 1)
        case measure => omega
        case rel => exact ⟨_, _, _, _, _, _, _, _, by omega, HN.out⟩
end Go.Proofs.Qxb6613956aFmt.W
