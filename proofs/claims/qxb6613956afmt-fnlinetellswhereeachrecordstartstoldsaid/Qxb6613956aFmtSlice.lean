import Derived.Test.Qxb6613956aFmtFill4
import Derived.Deep.LoopGhost
import Derived.Deep.Light
namespace Go.Proofs.Qxb6613956aFmt.W
open Go.RowKit

/-- v is a slice that holds the bytes L, in block b (if there is a byte at all) -/
def LineIn (w : World) (b : Nat) (v : Value) (L : List UInt8) : Prop :=
  ∃ (a : Addr) (c : Nat), v = .slice (some a) L.length c ∧ L.length ≤ c ∧ c ≤ maxLen ∧ (0 < L.length → ∃ o, a = ⟨b, o, none⟩ ∧ ∀ j (h : j < L.length), w.cell? ⟨b, o + j, none⟩ = some (.int .u8 (L[j].toNat : Int)))

/-- the reader's state between two calls: T is the text that is still to come -/
def RS (w : World) (bb bf bs : Nat) (s : ByteArray) (T : List UInt8) : Prop :=
  ∃ r wr i buf lb lr pr, St w bb bf bs s r wr i buf .nilIface lb lr pr ∧ pend buf r wr ++ s.data.toList.drop i = T

theorem St.drewN {w : World} {bb bf bs : Nat} {s : ByteArray} {r wr i : Nat} {buf : List UInt8} {ev : Value} {lb lr pr : Int} (h : St w bb bf bs s r wr i buf ev lb lr pr) (n : Nat) : St (w.drewN n) bb bf bs s r wr i buf ev lb lr pr :=
  { h with hb := h.hb, hf := h.hf, hs := h.hs }

theorem quiet_at {P : Program} {f : FuncId} {args : Array Value} {w : World} {a x : Nat} {v : Value}
    (h : Calls P f args (w.drewN (a + x)) fun e w' => e = .returned v ∧ ∃ m, w' = (w.drewN (a + x)).drewN m) : Calls P f args (w.drewN (a + x)) fun e w'' => e = .returned v ∧ ∃ n, w'' = w.drewN (a + n) :=
  h.mono fun _ _ ⟨he, m, hm⟩ => ⟨he, x + m, by rw [hm, drewN_drewN, Nat.add_assoc]⟩

theorem app_drop (P : List UInt8) (S : List UInt8) (i m : Nat) (T : List UInt8) (h : P ++ S.drop i = T) : (P ++ (S.drop i).take m) ++ S.drop (i + m) = T := by
  rw [← h, List.append_assoc, ← List.drop_drop, List.take_append_drop]
theorem pend_pre (buf : List UInt8) (r q wi : Nat) (h : q ≤ wi) {P R : List UInt8} (hp : pend buf r wi = P ++ R) (hl : P.length = q - r) : pend buf r q = P := by
  have e : pend buf r q = (pend buf r wi).take (q - r) := by
    unfold pend
    rw [List.take_drop, List.take_take]
    by_cases hr : r ≤ q
    · rw [show min (r + (q - r)) wi = q by omega]
    · rw [show q - r = 0 by omega, List.drop_eq_nil_of_le (by simp; omega), List.drop_eq_nil_of_le (by simp; omega)]
  rw [e, hp, List.take_append_of_le_length (by omega), List.take_of_length_le (by omega)]

theorem add_addr (b o j : Nat) : (⟨b, o, none⟩ : Addr).add j = ⟨b, o + j, none⟩ := by
  unfold Addr.add; simp

theorem src_at {w : World} {bf q wi : Nat} {buf : List UInt8} (h : w.heap[bf]? = some (.cells (rowB buf) 5 (0, 0))) (hl : buf.length = 4096) (hw : wi ≤ 4096) :
    ∃ sa : Addr, (if 4096 = q then some (⟨bf, 0, none⟩ : Addr) else some ⟨bf, q, none⟩) = some sa ∧ ∀ j (h : j < (pend buf q wi).length), w.cell? (sa.add j) = some (.int .u8 ((pend buf q wi)[j].toNat : Int)) := by
  have hp := pend_length buf q wi (by omega)
  by_cases hq : 4096 = q
  · exact ⟨⟨bf, 0, none⟩, if_pos hq, fun j hj => by omega⟩
  · refine ⟨⟨bf, q, none⟩, if_neg hq, fun j hj => ?_⟩
    rw [add_addr, srcB h (q + j) (by omega), pend_get buf q wi j hj (by omega)]

theorem pend_take (buf : List UInt8) (r q wi : Nat) (h1 : r ≤ q) (h : q ≤ wi) (hl : wi ≤ buf.length) : (pend buf r wi).take (q - r) = pend buf r q := by
  rw [pend_split buf r q wi h1 h hl, List.take_append_of_le_length (by rw [pend_length _ _ _ (by omega)]; omega), List.take_of_length_le (by rw [pend_length _ _ _ (by omega)]; omega)]
theorem pend_drop (buf : List UInt8) (r q wi : Nat) (h1 : r ≤ q) (h : q ≤ wi) (hl : wi ≤ buf.length) : (pend buf r wi).drop (q - r) = pend buf q wi := by
  rw [pend_split buf r q wi h1 h hl, List.drop_append_of_le_length (by rw [pend_length _ _ _ (by omega)]; omega), List.drop_eq_nil_of_le (by rw [pend_length _ _ _ (by omega)]; omega), List.nil_append]

/-- the way out of ReadSlice: bytes r .. e of the buffer are handed out -/
theorem St.out {w W' : World} {bb bf bs : Nat} {s : ByteArray} {r wi i : Nat} {buf : List UInt8} {ev : Value} {lb lr pr : Int} (h : St w bb bf bs s r wi i buf ev lb lr pr) {e : Nat} {lb' lr' : Int} (h1 : r ≤ e) (h2 : e ≤ wi)
    (hb : W'.heap[bb]? = some (.cells (brow bf bs e wi .nilIface lb' lr') 110 (0, 0))) (hf : W'.heap[bf]? = w.heap[bf]?) (hs : W'.heap[bs]? = w.heap[bs]?) {T : List UInt8} (hT : pend buf r wi ++ s.data.toList.drop i = T) (sp : Addr) (hsp : r < e → sp = ⟨bf, r, none⟩) :
    LineIn W' bf (.slice (some sp) (e - r) (4096 - r)) (pend buf r e) ∧ RS W' bb bf bs s (T.drop (pend buf r e).length) ∧ (pend buf r e).length = e - r ∧ pend buf r e = T.take (e - r) := by
  have g4 := h.w4
  have hl := h.len
  have hpl := pend_length buf r e (by omega)
  refine ⟨⟨sp, 4096 - r, by rw [hpl], by omega, by unfold maxLen; omega, fun h0 => ?_⟩, ⟨e, wi, i, buf, lb', lr', pr, { h with hb := hb, hf := hf.trans h.hf, hs := hs.trans h.hs, rw := h2 }, ?_⟩, hpl, ?_⟩
  · refine ⟨r, by rw [hsp (by omega)], fun j hj => ?_⟩
    have := srcB (hf.trans h.hf) (r + j) (by omega)
    rw [this, pend_get buf r e j hj (by omega)]
  · rw [hpl, ← hT, List.drop_append_of_le_length (by rw [pend_length _ _ _ (by omega)]; omega), pend_drop buf r e wi h1 h2 (by omega)]
  · rw [← hT, List.take_append_of_le_length (by rw [pend_length _ _ _ (by omega)]; omega), pend_take buf r e wi h1 h2 (by omega)]

theorem cell_set {w : World} {b i j : Nat} {v : Value} (h : i ≠ j) : (w.setCell ⟨b, i, none⟩ v).cell? ⟨b, j, none⟩ = w.cell? ⟨b, j, none⟩ :=
  World.cell?_setCell_other _ _ _ _ (fun e => h (by simpa using congrArg Addr.off e))
theorem found_line (buf : List UInt8) (r q wi j : Nat) (h1 : r ≤ q) (h2 : q ≤ wi) (h3 : wi ≤ buf.length) (a : (10 : UInt8) ∉ pend buf r q) (hj : j < (pend buf q wi).length) (hv : (pend buf q wi)[j] = 10) (hn : (10 : UInt8) ∉ (pend buf q wi).take j) :
    ∃ l, pend buf r (q + j + 1) = l ++ [10] ∧ (10 : UInt8) ∉ l := by
  have hl := pend_length buf q wi h3
  have e1 := pend_split buf r q (q + j + 1) h1 (by omega) (by omega)
  have e2 := pend_take buf q (q + j + 1) wi (by omega) (by omega) h3
  rw [show q + j + 1 - q = j + 1 by omega, List.take_succ_eq_append_getElem hj, hv] at e2
  refine ⟨pend buf r q ++ (pend buf q wi).take j, ?_, ?_⟩
  · rw [e1, ← e2, List.append_assoc]
  · simp [a, hn]
theorem and3 {A B C D E : Prop} (h : A ∧ B ∧ C ∧ D) (f : C → D → E) : A ∧ B ∧ E := ⟨h.1, h.2.1, f h.2.2.1 h.2.2.2⟩
theorem out3 {w : World} {bb k i1 i2 i3 : Nat} {v1 v2 v3 : Value} (h : bb ≠ k) : (((w.setCell ⟨bb, i1, none⟩ v1).setCell ⟨bb, i2, none⟩ v2).setCell ⟨bb, i3, none⟩ v3).heap[k]? = w.heap[k]? := by
  rw [heap_set_other _ (by exact ne_sym h), heap_set_other _ (by exact ne_sym h), heap_set_other _ (by exact ne_sym h)]
theorem out1 {w : World} {bb k i1 : Nat} {v1 : Value} (h : bb ≠ k) : (w.setCell ⟨bb, i1, none⟩ v1).heap[k]? = w.heap[k]? := heap_set_other _ (by exact ne_sym h)
theorem out2 {w : World} {bb k i1 i2 : Nat} {v1 v2 : Value} (h : bb ≠ k) : ((w.setCell ⟨bb, i1, none⟩ v1).setCell ⟨bb, i2, none⟩ v2).heap[k]? = w.heap[k]? := by
  rw [heap_set_other _ (by exact ne_sym h), heap_set_other _ (by exact ne_sym h)]
theorem out4 {w : World} {bb k i1 i2 i3 i4 : Nat} {v1 v2 v3 v4 : Value} (h : bb ≠ k) : ((((w.setCell ⟨bb, i1, none⟩ v1).setCell ⟨bb, i2, none⟩ v2).setCell ⟨bb, i3, none⟩ v3).setCell ⟨bb, i4, none⟩ v4).heap[k]? = w.heap[k]? := by
  rw [heap_set_other _ (by exact ne_sym h), out3 h]

set_option maxHeartbeats 400000 in
theorem buffered_any (bb r wi : Nat) (w : World) (c2 : w.cell? ⟨bb, 2, none⟩ = some (.int .i64 r)) (c3 : w.cell? ⟨bb, 3, none⟩ = some (.int .i64 wi)) (h : r ≤ wi) (h4 : wi ≤ 4096) :
    Calls Tryf.prog 58 #[.pointer (some ⟨bb, 0, none⟩)] w fun e w' => e = .returned (.int .i64 ((wi - r : Nat) : Int)) ∧ ∃ q, w' = w.drewN q := by
  have hd : (wi : Int) - (r : Int) = ((wi - r : Nat) : Int) := by omega
  go_enter Tryf.func58, Tryf.ntmps58
  go_wp2
  go_quiet (fail)
  go_wp2
  go_ret
  exact ⟨rfl, _, rfl⟩

set_option maxHeartbeats 400000 in
theorem readErr_any (bb : Nat) (ev : Value) (w : World) (c4 : w.cell? ⟨bb, 4, none⟩ = some ev) (f4 : w.frozen? ⟨bb, 4, none⟩ = false) :
    Calls Tryf.prog 57 #[.pointer (some ⟨bb, 0, none⟩)] w fun e w' => e = .returned ev ∧ w' = w.setCell ⟨bb, 4, none⟩ .nilIface := by
  go_enter Tryf.func57, Tryf.ntmps57
  go_wp2
  go_ret
  exact ⟨rfl, rfl⟩

set_option maxRecDepth 100000 in
set_option maxHeartbeats 2000000 in
theorem slice_any (bb bf bs : Nat) (s : ByteArray) (T : List UInt8) (ea fa : Addr) (w : World) (hrs : RS w bb bf bs s T)
    (he : w.cell? ⟨0, 0, none⟩ = some (errV ea)) (hf : w.cell? ⟨2, 0, none⟩ = some (errV fa)) (hz : 4 < bb) (hzf : 4 < bf) (hzs : 4 < bs) :
    Calls Tryf.prog 44 #[.pointer (some ⟨bb, 0, none⟩), .int .u8 10] w fun e w' => Upd [bb, bf, bs] w w' ∧ ∃ v ev L, e = .returned (.tuple #[v, ev]) ∧ L.length ≤ 4096 ∧ LineIn w' bf v L ∧ RS w' bb bf bs s (T.drop L.length) ∧
      ((∃ l, L = l ++ [10] ∧ (10 : UInt8) ∉ l ∧ L = T.take L.length ∧ ev = .nilIface) ∨
       (L = T ∧ (10 : UInt8) ∉ T ∧ T.length < 4096 ∧ ev = errV ea) ∨
       (L = T.take 4096 ∧ (10 : UInt8) ∉ L ∧ L.length = 4096 ∧ ev = errV fa)) := by
  obtain ⟨r0, wr0, i0, buf0, lb0, lr0, pr0, hst0, hT⟩ := hrs
  have HT := hid hT
  clear hT
  go_enter Tryf.func44, Tryf.ntmps44
  go_wp2
  go_loopg [4, 5, 6] (2 * s.size + 2) (fun k t4 t5 t6 wl => ∃ (r wr i q : Nat) (buf : List UInt8) (ev : Value) (lb lr pr : Int), t4 = .slice none 0 0 ∧ t5 = .nilIface ∧ t6 = .int .i64 ((q - r : Nat) : Int) ∧ St wl bb bf bs s r wr i buf ev lb lr pr ∧ r ≤ q ∧ q ≤ wr ∧
      pend buf r wr ++ s.data.toList.drop i = T ∧ (10 : UInt8) ∉ pend buf r q ∧ Upd [bb, bf, bs] w wl ∧ ((ev = .nilIface ∧ 2 * (s.size - i) + 1 ≤ k) ∨ (ev = errV ea ∧ i = s.size ∧ q = wr ∧ wr - r < 4096)))
  case atStart => exact ⟨r0, wr0, i0, r0, buf0, .nilIface, lb0, lr0, pr0, rfl, rfl, by simp, hst0, Nat.le_refl _, hst0.rw, HT.out, by simp [pend], Upd.refl _ _, .inl ⟨rfl, by omega⟩⟩
  case round =>
    obtain ⟨r, wi, i, q, buf, ev, lb, lr, pr, rfl, rfl, rfl, hst, hrq, hqw, hT, hno, HU, hev⟩ := hrel
    have HB := hid hst.hb
    have c0 := cell0 HB
    have c2 := cell2 HB
    have c3 := cell3 HB
    have c4 := cell4 HB
    have g4 := hst.w4
    have hlen := hst.len
    obtain ⟨n, Hn⟩ : ∃ n : Nat, Hid (n = q - r) := ⟨_, rfl⟩
    have en : ((q - r : Nat) : Int) = (n : Int) := by rw [Hn.out]
    rw [en]
    clear en
    have hd : (r : Int) + (n : Int) = (q : Int) := by have := Hn.out; omega
    have HL := hid (pend_length buf q wi (by omega))
    obtain ⟨sa, hsa, hC⟩ := src_at (q := q) (wi := wi) hst.hf hst.len (by omega)
    have HC := hid hC
    clear hC
    have b1 : (q : Int) ≤ wi := by omega
    have b2 : (wi : Int) ≤ 4096 := by omega
    have b0 : (0 : Int) ≤ q := by omega
    have HT2 := hid hT
    have HNO := hid hno
    clear hT hno
    rcases ix_cases (pend buf q wi) 10 with ⟨hix, hnin⟩ | ⟨j, hix, hj, hjv, hjn⟩
    · have HNIN := hid hnin
      clear hnin
      rcases hev with ⟨rfl, hk⟩ | ⟨rfl, hi, hqw2, hfull⟩
      · have hrw := hst.rw
        by_cases hfl : wi - r < 4096
        · have hfl2 : ¬ (4096 : Int) ≤ ((wi - r : Nat) : Int) := by omega
          have hd2 : (wi : Int) - (r : Int) = ((wi - r : Nat) : Int) := by omega
          have he' : wr.cell? ⟨0, 0, none⟩ = some (errV ea) := (HU.cell (p := ⟨0, 0, none⟩) (by exact lt0 he) (by simp; omega)).trans he
          go_wp2
          go_quiet ((go_at_call 53; exact Calls.quiet_of_same (ib10 sa (pend buf q wi) _ _ _ HL.out (by exact HC.out))))
          go_wp2
          go_quiet ((go_at_call 58; exact quiet_at (buffered_any bb r wi _ (by exact c2) (by exact c3) hrw g4)))
          go_wp2
          go_quiet (fail)
          go_wp2_with (go_at_call 59; go_fit (fill_any bb bf bs r wi i s buf .nilIface ea lb lr pr _ (by exact hst.drewN _) hfl (by exact he') (by omega) (by omega)); rintro e w2 ⟨rfl, HU2, buf2, pr2, hc⟩)
          have HUU := (HU.drewN 0).trans ((Upd.refl _ wr).drewN 0 |>.trans (Upd.trans ((Upd.refl _ wr).drewN _) HU2))
          have hno2 := no_split buf r q wi hrq hqw (by omega) HNO.out HNIN.out
          rcases hc with ⟨hi, hst2, hp⟩ | ⟨m, hm0, hm1, hst2, hp⟩
          · go_roundg 0
            case measure => omega
            case rel => exact ⟨0, wi - r, i, wi - r, buf2, _, lb, lr, pr2, rfl, rfl, rfl, hst2, Nat.zero_le _, Nat.le_refl _, by rw [hp]; exact HT2.out, by rw [hp]; exact hno2, HUU, .inr ⟨rfl, hi, rfl, by omega⟩⟩
          · go_roundg (gk - 1)
            case measure => omega
            case rel => exact ⟨0, wi - r + m, i + m, wi - r, buf2, _, lb, lr, pr2, rfl, rfl, rfl, hst2, Nat.zero_le _, by omega, by rw [hp]; exact app_drop _ _ _ _ _ HT2.out, by rw [pend_pre buf2 0 (wi - r) (wi - r + m) (by omega) hp (pend_length buf r wi (by omega))]; exact hno2, HUU, .inl ⟨rfl, by omega⟩⟩
        · have hfl2 : (4096 : Int) ≤ ((wi - r : Nat) : Int) := by omega
          have hf' : wr.cell? ⟨2, 0, none⟩ = some (errV fa) := (HU.cell (p := ⟨2, 0, none⟩) (by exact lt0 hf) (by simp; omega)).trans hf
          have c5 := cell5 HB
          have c6 := cell6 HB
          have f2 := free HB 2
          have f5 := free HB 5
          have f6 := free HB 6
          have hlast := srcB hst.hf 4095 (by omega)
          have hno2 := hid (no_split buf r q wi hrq hqw (by omega) HNO.out HNIN.out)
          go_wp2
          go_quiet ((go_at_call 53; exact Calls.quiet_of_same (ib10 sa (pend buf q wi) _ _ _ HL.out (by exact HC.out))))
          go_wp2
          go_quiet ((go_at_call 58; exact quiet_at (buffered_any bb r wi _ (by exact c2) (by exact c3) hrw g4)))
          go_wp2
          go_ret2
          obtain ⟨rfl, rfl⟩ : r = 0 ∧ wi = 4096 := by omega
          refine ⟨((((HU.drewN _).setCell (by simp) _).setCell (by simp) _).setCell (by simp) _), .slice (some ⟨bf, 0, none⟩) (4096 - 0) (4096 - 0), errV fa, pend buf 0 4096, rfl, by rw [pend_length _ _ _ (by omega)]; omega, ?_⟩
          refine and3 (hst.out (e := 4096) (T := T) (lb' := wrap64 (buf[4095].toNat : Int)) (lr' := -1) (Nat.zero_le _) (Nat.le_refl _) (by exact Joins.block_setCell (i := 6) (Joins.block_setCell (i := 5) (Joins.block_setCell (i := 2) HB.out _) _) _) (by exact out3 hst.d1) (by exact out3 hst.d2) HT2.out ⟨bf, 0, none⟩ (fun _ => rfl)) (fun o3 o4 => .inr (.inr ⟨o4, hno2.out, o3, rfl⟩))
      · have hrw := hst.rw
        have HI := hid hi
        have HQ := hid hqw2
        clear hi hqw2
        have c5 := cell5 HB
        have c6 := cell6 HB
        have f2 := free HB 2
        have f4 := free HB 4
        have f5 := free HB 5
        have f6 := free HB 6
        have hno2 := hid (no_split buf r q wi hrq hqw (by omega) HNO.out HNIN.out)
        obtain ⟨sp, hsp, hsp2⟩ : ∃ sp : Addr, (if 4096 = r then some (⟨bf, 0, none⟩ : Addr) else some ⟨bf, r, none⟩) = some sp ∧ (r < wi → sp = ⟨bf, r, none⟩) := by
          by_cases h : 4096 = r
          · exact ⟨_, if_pos h, fun h2 => by omega⟩
          · exact ⟨_, if_neg h, fun _ => rfl⟩
        have HSP := hid hsp2
        clear hsp2
        have b5 : (r : Int) ≤ wi := by omega
        have b6 : (0 : Int) ≤ r := by omega
        have d1 : ¬ bb = bf := hst.d1
        have d1' : ¬ bf = bb := ne_sym hst.d1
        by_cases hne : r < wi
        · have hne2 : ¬ 4096 = r := by omega
          obtain ⟨u, hu⟩ : ∃ u : Nat, wi - r = u + 1 := ⟨wi - r - 1, by omega⟩
          have Hu := hid hu
          have hlast := srcB hst.hf (r + u) (by omega)
          go_wp2
          go_quiet ((go_at_call 53; exact Calls.quiet_of_same (ib10 sa (pend buf q wi) _ _ _ HL.out (by exact HC.out))))
          go_wp2
          go_quiet (fail)
          go_wp2_with (go_at_call 57; go_fit (readErr_any bb (errV ea) _ (by exact (cell_set (by decide)).trans c4) (by exact (World.frozen?_setCell _ _ _ _).trans f4)); rintro e w2 ⟨rfl, rfl⟩)
          go_ret2
          refine ⟨(((((HU.drewN _).setCell (by simp) _).setCell (by simp) _).setCell (by simp) _).setCell (by simp) _), .slice (some ⟨bf, r, none⟩) (wi - r) (4096 - r), errV ea, pend buf r wi, by rw [Hu.out]; rfl, by rw [pend_length _ _ _ (by omega)]; omega, ?_⟩
          refine and3 (hst.out (e := wi) (T := T) (lb' := wrap64 (buf[r + u].toNat : Int)) (lr' := -1) hrw (Nat.le_refl _) (by exact Joins.block_setCell (i := 6) (Joins.block_setCell (i := 5) (Joins.block_setCell (i := 4) (Joins.block_setCell (i := 2) HB.out _) _) _) _) (by exact out4 hst.d1) (by exact out4 hst.d2) HT2.out ⟨bf, r, none⟩ (fun _ => rfl)) (fun o3 o4 => .inr (.inl ?_))
          have hTe : pend buf r wi = T := by have := HT2.out; rw [HI.out, List.drop_eq_nil_of_le (by rw [← Lib.size_eq]; exact Nat.le_refl _), List.append_nil] at this; exact this
          exact ⟨hTe, by rw [← hTe]; exact hno2.out, by rw [← hTe, o3]; omega, rfl⟩
        · have hu : wi - r = 0 := by omega
          have Hu := hid hu
          go_wp2
          go_quiet ((go_at_call 53; exact Calls.quiet_of_same (ib10 sa (pend buf q wi) _ _ _ HL.out (by exact HC.out))))
          go_wp2
          go_quiet (fail)
          go_wp2_with (go_at_call 57; go_fit (readErr_any bb (errV ea) _ (by exact (cell_set (by decide)).trans c4) (by exact (World.frozen?_setCell _ _ _ _).trans f4)); rintro e w2 ⟨rfl, rfl⟩)
          go_ret2
          refine ⟨(((HU.drewN _).setCell (by simp) _).setCell (by simp) _), .slice (some sp) (wi - r) (4096 - r), errV ea, pend buf r wi, by rw [Hu.out]; rfl, by rw [pend_length _ _ _ (by omega)]; omega, ?_⟩
          refine and3 (hst.out (e := wi) (T := T) (lb' := lb) (lr' := lr) hrw (Nat.le_refl _) (by exact Joins.block_setCell (i := 4) (Joins.block_setCell (i := 2) HB.out _) _) (by exact out2 hst.d1) (by exact out2 hst.d2) HT2.out sp HSP.out) (fun o3 o4 => .inr (.inl ?_))
          have hTe : pend buf r wi = T := by have := HT2.out; rw [HI.out, List.drop_eq_nil_of_le (by rw [← Lib.size_eq]; exact Nat.le_refl _), List.append_nil] at this; exact this
          exact ⟨hTe, by rw [← hTe]; exact hno2.out, by rw [← hTe, o3]; omega, rfl⟩
    · rcases hev with ⟨rfl, hk⟩ | ⟨rfl, hi, hqw2, hfull⟩
      · have hrw := hst.rw
        have hjl := HL.out
        have HF := hid (found_line buf r q wi j hrq hqw (by omega) HNO.out hj hjv hjn)
        obtain ⟨x, Hx⟩ : ∃ x : Nat, Hid (x = q + j + 1) := ⟨_, rfl⟩
        obtain ⟨u, Hu⟩ : ∃ u : Nat, Hid (u = q + j - r) := ⟨_, rfl⟩
        have hx0 := Hx.out
        have hu0 := Hu.out
        have hn0 := Hn.out
        have h1 : (j : Int) + (n : Int) = (u : Int) := by omega
        have h2 : (r : Int) + (u : Int) + 1 = (x : Int) := by omega
        have h3 : (r : Int) + ((u : Int) + 1) = (x : Int) := by omega
        have hxr : x - r = u + 1 := by omega
        have HXR := hid hxr
        have b5 : (r : Int) ≤ x := by omega
        have b6 : (0 : Int) ≤ r := by omega
        have b7 : (x : Int) ≤ 4096 := by omega
        have b8 : ¬ 4096 = r := by omega
        have b9 : (0 : Int) ≤ (j : Int) := by omega
        have hxw : x ≤ wi := by omega
        have hrx : r ≤ x := by omega
        have hu4 : u < 4096 := by omega
        have c5 := cell5 HB
        have c6 := cell6 HB
        have f2 := free HB 2
        have f5 := free HB 5
        have f6 := free HB 6
        have d1 : ¬ bb = bf := hst.d1
        have d1' : ¬ bf = bb := ne_sym hst.d1
        have hrl : r + u < buf.length := by omega
        have hq4 : ¬ 4096 = q := by omega
        rw [if_neg hq4] at hsa
        obtain rfl := Option.some.inj hsa
        have hlast := srcB hst.hf (r + u) hrl
        clear hx0 hu0 hn0 hjl hj hjv hjn
        go_wp2
        go_quiet ((go_at_call 53; exact Calls.quiet_of_same (ib10 ⟨bf, q, none⟩ (pend buf q wi) _ _ _ HL.out (by exact HC.out))))
        go_wp2
        go_quiet (fail)
        go_wp2
        go_ret2
        refine ⟨((((HU.drewN _).setCell (by simp) _).setCell (by simp) _).setCell (by simp) _), .slice (some ⟨bf, r, none⟩) (x - r) (4096 - r), .nilIface, pend buf r x, by rw [HXR.out]; rfl, by rw [pend_length _ _ _ (by omega)]; omega, ?_⟩
        refine and3 (hst.out (e := x) (T := T) (lb' := wrap64 (buf[r + u].toNat : Int)) (lr' := -1) hrx hxw (by exact Joins.block_setCell (i := 6) (Joins.block_setCell (i := 5) (Joins.block_setCell (i := 2) HB.out _) _) _) (by exact out3 hst.d1) (by exact out3 hst.d2) HT2.out ⟨bf, r, none⟩ (fun _ => rfl)) (fun o3 o4 => .inl ?_)
        obtain ⟨l, hl1, hl2⟩ := HF.out
        rw [← Hx.out] at hl1
        exact ⟨l, hl1, hl2, by rw [o3]; exact o4, rfl⟩
      · exfalso; have := HL.out; omega
end Go.Proofs.Qxb6613956aFmt.W
