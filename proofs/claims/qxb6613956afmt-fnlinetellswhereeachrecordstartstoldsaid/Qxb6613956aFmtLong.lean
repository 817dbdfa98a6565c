import Derived.Test.Qxb6613956aFmtLine
import Derived.Deep.AppendLies
namespace Go.Proofs.Qxb6613956aFmt.W
open Go.RowKit

theorem info5b : (Tryf.prog.info? 5).map (fun i => (i.zero, i.size, i.bytes)) = some (some (.int .u8 0), 1, 1) := by kernel_rfl

theorem grown_upd {w w' : World} {row : Option Nat} {S : List Nat} (h : w.grownBy w' row) (hS : ∀ k, row = some k → k ∈ S) : Upd S w w' :=
  ⟨h.os, h.tape, h.output, h.size, fun k hk hn => h.block k hk (fun e => hn (hS k e.symm))⟩

theorem ownBlock_vb (v : Value) (k : Nat) : v.ownBlock = some k ↔ k ∈ vb v := by
  unfold Value.ownBlock vb
  split <;> simp [eq_comm]

/-- append onto a row of the call's own: where the new slice lies, and what stays -/
theorem run_app {P : Program} (w : World) (t ty : TypeId) (base : Nat) (e : TypeId) (i : TypeInfo) (z : Value) (size bytes : Nat) (ht : P.underlying t = some (.slice e)) (hi : P.info? e = some i) (hz : i.zero = some z)
    (hsize : i.size = size) (hby : i.bytes = bytes) (hzs : z.cells.size = size) (hsz : 0 < size)
    (v : Value) (n : Nat) (xs : List Value) (hown : w.ownsRow base e size v n xs)
    (ad : Addr) (m c : Nat) (news : List Value) (hl : news.length = m * size) (hnews : ∀ j u, news[j]? = some u → w.cell? (ad.add j) = some u) (h1 : ∀ u ∈ news, u.oneCell' = true)
    (hm : 0 < n + m) (h63 : n + m ≤ maxLen) (hbytes : (n + m) * bytes ≤ 140737488355328) (hbase : base ≤ w.heap.size) :
    ∃ g cap w', (Builtin.append_ #[t, t] ty #[v, .slice (some ad) m c]).run P w = .ok (.slice (some ⟨g, 0, none⟩) (n + m) cap) w' ∧
      w'.ownsRow base e size (.slice (some ⟨g, 0, none⟩) (n + m) cap) (n + m) (xs ++ news) ∧ Upd (vb v) w w' ∧ (g ∈ vb v ∨ w.heap.size ≤ g) := by
  obtain ⟨v', w', hr, h2, h3, _, h5⟩ := run_append_own_at (P := P) w base t ty e i z size bytes ht hi hz hsize hby hzs hsz v n xs hown ad m c news hl hnews h1 h63 hbytes hbase
  obtain ⟨g, cap, rfl, _, hlt⟩ := h2.form hm
  refine ⟨g, cap, w', hr, h2, grown_upd h3 (fun k hk => (ownBlock_vb v k).1 hk), ?_⟩
  rcases h5 with h5 | h5
  · exact .inl ((ownBlock_vb v g).1 (by rw [← h5]; rfl))
  · right
    have : g = w.heap.size := by simpa [Value.ownBlock] using h5
    omega

theorem wpList_app {P : Program} {w : World} {ops : Array Oper} {rest : List Oper} {o : Oper} {a : Act} {Q : Exit → Act → World → Prop} (hgd : o.guard = none) (s x : Operand) (t : TypeId)
    (ho : o.op = .call { callee := .builtin .append, args := #[s, x], argTypes := #[t, t] })
    (base : Nat) (e : TypeId) (i : TypeInfo) (z : Value) (size bytes : Nat) (ht : P.underlying t = some (.slice e)) (hi : P.info? e = some i) (hz : i.zero = some z)
    (hsize : i.size = size) (hby : i.bytes = bytes) (hzs : z.cells.size = size) (hsz : 0 < size)
    (v : Value) (n : Nat) (xs : List Value) (hs : a.eval s = v) (hown : w.ownsRow base e size v n xs)
    (ad : Addr) (m c : Nat) (news : List Value) (hx : a.eval x = .slice (some ad) m c) (hl : news.length = m * size) (hnews : ∀ j u, news[j]? = some u → w.cell? (ad.add j) = some u) (h1 : ∀ u ∈ news, u.oneCell' = true)
    (hm : 0 < n + m) (h63 : n + m ≤ maxLen) (hbytes : (n + m) * bytes ≤ 140737488355328) (hbase : base ≤ w.heap.size)
    (h : ∀ g cap w', w'.ownsRow base e size (.slice (some ⟨g, 0, none⟩) (n + m) cap) (n + m) (xs ++ news) → Upd (vb v) w w' → (g ∈ vb v ∨ w.heap.size ≤ g) → wpList P ops Q rest (a.put o.dst (.slice (some ⟨g, 0, none⟩) (n + m) cap)) w') : wpList P ops Q (o :: rest) a w := by
  refine wpList_plain hgd fun K hK => ?_
  obtain ⟨g, cap, w', hr, h2, h3, h4⟩ := run_app (P := P) w t o.type base e i z size bytes ht hi hz hsize hby hzs hsz v n xs hown ad m c news hl hnews h1 hm h63 hbytes hbase
  unfold Oper.wp execOp
  simp only [ho, resolve, invoke, builtin, Sem.run_bind, Sem.run_pure, Result.andThen_ok, List.map_toArray, List.map_cons, List.map_nil, hs, hx, hr]
  exact hK _ _ (h g cap w' h2 h3 h4)

theorem RS.len {w : World} {bb bf bs : Nat} {s : ByteArray} {T : List UInt8} (h : RS w bb bf bs s T) : T.length ≤ 1052696 := by
  obtain ⟨r, wr, i, buf, lb, lr, pr, hst, hT⟩ := h
  rw [← hT, List.length_append, pend_length _ _ _ (by rw [hst.len]; exact hst.w4), List.length_drop, ← Lib.size_eq]
  have := hst.w4
  have := hst.sz
  omega

theorem news_of {w : World} {b : Nat} {a : Addr} {L : List UInt8} (h : 0 < L.length → ∃ o, a = ⟨b, o, none⟩ ∧ ∀ j (h : j < L.length), w.cell? ⟨b, o + j, none⟩ = some (.int .u8 (L[j].toNat : Int))) :
    ∀ (j : Nat) (u : Value), (Lib.byteCells L)[j]? = some u → w.cell? (a.add j) = some u := by
  intro j u hj
  have hjl : j < L.length := by
    have := (List.getElem?_eq_some_iff.1 hj).1
    rwa [Lib.byteCells_length] at this
  obtain ⟨o, rfl, hc⟩ := h (by omega)
  rw [add_addr, hc j hjl, ← hj]
  simp [Lib.byteCells, hjl]

theorem CR.lts {w : World} {B bc bb bf bs : Nat} {s : ByteArray} {T : List UInt8} {ln st fd : Int} {long text ends rec : Value} (h : CR w B bc bb bf bs s T ln st fd long text ends rec) : bc < w.heap.size ∧ bb < w.heap.size ∧ bf < w.heap.size ∧ bs < w.heap.size := by
  have := h.rs.d
  exact ⟨lt_of_block h.hc, this.2.2.2.1, this.2.2.2.2.1, this.2.2.2.2.2⟩

/-- 'r.long = append(..)' -/
theorem CR.relong {w1 w2 : World} {B bc bb bf bs : Nat} {s : ByteArray} {T : List UInt8} {ln st fd : Int} {long text ends rec lv v2 : Value} {n : Nat} {xs : List Value} (h : CR w1 B bc bb bf bs s T ln st fd long text ends rec)
    (hvb : vb lv = vb long) (hu : Upd (vb lv) w1 w2) (ho : w2.ownsRow B 5 1 v2 n xs) (hg : ∀ k, k ∈ vb v2 → k ∈ vb long ∨ w1.heap.size ≤ k) :
    CR (w2.setCell ⟨bc, 4, none⟩ v2) B bc bb bf bs s T ln st fd v2 text ends rec ∧ (w2.setCell ⟨bc, 4, none⟩ v2).ownsRow B 5 1 v2 n xs := by
  have hl := h.lts
  have nb : ∀ k, k ∈ vb v2 → k ≠ bc ∧ k ≠ bb ∧ k ≠ bf ∧ k ≠ bs := fun k hk => by
    rcases hg k hk with h1 | h1
    · exact h.dl k h1
    · omega
  have no : ∀ k, (k = bc ∨ k = bb ∨ k = bf ∨ k = bs) → k ∉ vb lv := fun k hk hm => by
    rw [hvb] at hm
    have := h.dl k hm
    omega
  have own : (w2.setCell ⟨bc, 4, none⟩ v2).ownsRow B 5 1 v2 n xs := owns_upd ho fun k hk => heap_set_other _ (by exact (nb k hk).1)
  refine ⟨{ h with
    hc := Joins.block_setCell (i := 4) (hu.heap h.hc (no bc (by simp))) _
    rs := h.rs.upd ((out1 h.cb).trans (hu.block bb hl.2.1 (no bb (by simp)))) ((out1 h.cf).trans (hu.block bf hl.2.2.1 (no bf (by simp)))) ((out1 h.cs).trans (hu.block bs hl.2.2.2 (no bs (by simp))))
    lg := ⟨n, xs, own⟩
    dl := nb }, own⟩

theorem drop_acc {acc T' T : List UInt8} (h : acc ++ T' = T) : T.drop acc.length = T' := by rw [← h]; simp

theorem upd_widen {S S2 : List Nat} {a b c : World} (h : Upd S a b) (k : Upd S2 b c) (hs : ∀ x, x ∈ S2 → x ∈ S ∨ a.heap.size ≤ x) : Upd S a c :=
  ⟨k.os.trans h.os, k.tape.trans h.tape, k.output.trans h.output, Nat.le_trans h.size k.size, fun i hi hn => (k.block i (Nat.lt_of_lt_of_le hi h.size) (fun hm => by
    rcases hs i hm with h1 | h1
    · exact hn h1
    · omega)).trans (h.block i hi hn)⟩

theorem LineIn_own {w : World} {B g cap : Nat} {acc : List UInt8} (h : w.ownsRow B 5 1 (.slice (some ⟨g, 0, none⟩) acc.length cap) acc.length (Lib.byteCells acc)) : LineIn w g (.slice (some ⟨g, 0, none⟩) acc.length cap) acc := by
  rcases h with ⟨_, ⟨h1, _⟩ | ⟨g', cap', cur, h1, hg, hh, h2, h3, h4, h5⟩⟩
  · cases h1
  · simp at h1
    obtain ⟨rfl, rfl⟩ := h1
    refine ⟨⟨g, 0, none⟩, cap, rfl, h2, h3, fun _ => ⟨0, rfl, fun j hj => ?_⟩⟩
    rw [Joins.cell_of_block hh, Nat.zero_add]
    have e : cur.toList[j]? = (Lib.byteCells acc)[j]? := by
      rw [← h5, List.getElem?_take, if_pos (by omega)]
    rw [← Array.getElem?_toList, e]
    simp [Lib.byteCells, hj]

/-- one more piece of a long line -/
theorem long_case {acc T' T L : List UInt8} {ev : Value} {ea fa : Addr} (hT : acc ++ T' = T) (hno : (10 : UInt8) ∉ acc)
    (h : (∃ l, L = l ++ [10] ∧ (10 : UInt8) ∉ l ∧ L = T'.take L.length ∧ ev = .nilIface) ∨ (L = T' ∧ (10 : UInt8) ∉ T' ∧ T'.length < 4096 ∧ ev = errV ea) ∨ (L = T'.take 4096 ∧ (10 : UInt8) ∉ L ∧ L.length = 4096 ∧ ev = errV fa)) :
    acc ++ L ++ T'.drop L.length = T ∧ ((ev = errV fa ∧ (10 : UInt8) ∉ acc ++ L ∧ (T'.drop L.length).length < T'.length) ∨ (ev = .nilIface ∧ acc ++ L = fl T) ∨ (ev = errV ea ∧ acc ++ L = fl T)) := by
  have key : ∀ (hL : L = T'.take L.length), acc ++ L ++ T'.drop L.length = T := fun hL => by
    rw [List.append_assoc, ← hT]
    congr 1
    have := List.take_append_drop L.length T'
    rw [← hL] at this; exact this
  rcases h with ⟨l, h1, h2, h3, h4⟩ | ⟨h1, h2, h3, h4⟩ | ⟨h1, h2, h3, h4⟩
  · refine ⟨key h3, .inr (.inl ⟨h4, ?_⟩)⟩
    rw [← hT, fl_append acc T' hno, ← fl_case h1 h2 h3]
  · refine ⟨key (by rw [h1]; simp), .inr (.inr ⟨h4, ?_⟩)⟩
    rw [← hT, fl_append acc T' hno, h1, fl_none T' h2]
  · have : 4096 ≤ T'.length := by rw [h1] at h3; simp at h3; omega
    refine ⟨key (by rw [h3]; exact h1), .inl ⟨h4, by simp [hno, h2], by simp; omega⟩⟩

set_option maxRecDepth 100000 in
set_option maxHeartbeats 1000000 in
/-- readLine where the line is longer than the buffer -/
theorem readLine_long (B bc bb bf bs : Nat) (s : ByteArray) (T : List UInt8) (ln st fd : Int) (long text ends rec : Value) (ea fa : Addr) (w : World) (h : CR w B bc bb bf bs s T ln st fd long text ends rec) (he : Errs w B ea fa)
    (hl0 : 0 ≤ ln) (hl1 : ln ≤ 4194304) (hno : (10 : UInt8) ∉ T.take 4096) (hlen : 4096 ≤ T.length) :
    Calls Tryf.prog 34 #[.pointer (some ⟨bc, 0, none⟩)] w fun e w' => ∃ v g cap, e = .returned (.tuple #[v, .nilIface]) ∧ v = .slice (some ⟨g, 0, none⟩) (fl T).length cap ∧ LineIn w' g v (fl T) ∧ CR w' B bc bb bf bs s (T.drop (fl T).length) (ln + 1) st fd v text ends rec ∧ Upd ([bc, bb, bf, bs] ++ vb long) w w' ∧ (g ∈ vb long ∨ w.heap.size ≤ g) := by
  obtain ⟨c0, c1, c4, f1, f4⟩ := ccell h.hc
  have hB4 := he.b4
  have hBc := h.Bc
  have hBb := h.Bb
  have hBf := h.Bf
  have hBs := h.Bs
  obtain ⟨i0, hi, hz0, hz1, hz2⟩ := info_parts info5b
  go_enter Tryf.func34, Tryf.ntmps34
  go_wp2_with fail
  go_fit (slice_any bb bf bs s T ea fa _ (by exact h.rs) (by exact he.e) (by exact he.f) (by omega) (by omega) (by omega))
  rintro e w1 ⟨HU, v, ev, L, rfl, hL4, hL, hR, hcase⟩
  have hLe : L = T.take 4096 ∧ ev = errV fa := by
    rcases hcase with ⟨l, h1, h2, h3, h4⟩ | ⟨h1, h2, h3, h4⟩ | ⟨h1, h2, h3, h4⟩
    · exfalso
      have h5 : (10 : UInt8) ∈ L := by rw [h1]; simp
      rw [h3] at h5
      exact hno (List.take_subset_take_left T hL4 h5)
    · omega
    · exact ⟨h1, h4⟩
  obtain ⟨hLT, hev⟩ := hLe
  have hLl : L.length = 4096 := by rw [hLT]; simp; omega
  obtain ⟨a, c, hv, _, _, hcells⟩ := hL
  have he1 := he.upd HU (by simp; omega)
  have e1 := he1.e
  have e2 := he1.f
  have q1 : (binOp .eql 55 (errV fa) (errV fa)).run Tryf.prog w1 = .ok (.bool true) w1 := eql_same fa w1
  have hc1 := h.step HU (by simp [h.cb, h.cf, h.cs]) (fun k hk => by have := h.dl k hk; simp [this]) hR
  have HN := hid (news_of hcells)
  have HLT := hid hLT
  have HNO := hid hno
  rw [hLl] at hv hR
  rw [hv, hev]
  clear hcase hv hev c0 c1 c4 f1 f4 hcells hL4 hLT hno
  obtain ⟨c0, c1, c4, f1, f4⟩ := ccell hc1.hc
  have HC1 := hid hc1
  -- r.long[:0]
  have hl0' : ∃ lv : Value, (lv = .slice none 0 0 ∧ long = .slice none 0 0 ∨ ∃ g0 n0 cap0, lv = .slice (some ⟨g0, 0, none⟩) 0 cap0 ∧ long = .slice (some ⟨g0, 0, none⟩) n0 cap0 ∧ n0 ≤ cap0) ∧ w1.ownsRow B 5 1 lv 0 [] ∧ vb lv = vb long := by
    obtain ⟨n0, xs0, ho0⟩ := hc1.lg
    rcases ho0 with ⟨_, ⟨hlv, _⟩ | ⟨g0, cap0, cur0, hlv, hg0, hh0, r0, r1, r2, r3⟩⟩
    · exact ⟨_, .inl ⟨rfl, hlv⟩, World.ownsRow_nil _ _ _ _, by rw [hlv]⟩
    · exact ⟨.slice (some ⟨g0, 0, none⟩) 0 cap0, .inr ⟨g0, n0, cap0, rfl, hlv, r0⟩, ⟨rfl, .inr ⟨g0, cap0, cur0, rfl, hg0, hh0, Nat.zero_le _, r1, r2, by simp⟩⟩, by rw [hlv]; rfl⟩
  obtain ⟨lv, hlv, HO, hvb⟩ := hl0'
  have HVB := hid hvb
  clear hvb
  have hNE : bc ∉ vb lv ∧ bb ∉ vb lv ∧ bf ∉ vb lv ∧ bs ∉ vb lv := by
    rw [HVB.out]
    exact ⟨fun hm => (h.dl _ hm).1 rfl, fun hm => (h.dl _ hm).2.1 rfl, fun hm => (h.dl _ hm).2.2.1 rfl, fun hm => (h.dl _ hm).2.2.2 rfl⟩
  rcases hlv with ⟨hlv, hlong⟩ | ⟨g0, n0, cap0, hlv, hlong, hn0⟩
  · rw [hlong] at c4
    rw [hlv] at HO
    have HLV := hid hlv
    clear hlv hlong
    go_wp2_with (first | (at_builtin; refine wpList_app rfl (.tmp 22) (.tmp 23) 43 rfl B 5 i0 (.int .u8 0) 1 1 Tryf.underlying43 hi hz0 hz1 hz2 rfl (by decide) (.slice none 0 0) 0 [] rfl HO a 4096 c (Lib.byteCells L) rfl (by rw [Lib.byteCells_length, hLl]) HN.out (Lib.byteCells_one _) (by omega) (by unfold maxLen; omega) (by omega) (by have := he1.sz; omega) ?_; intro g2 cap2 w2 HO2 hu2 hg2; rw [← HLV.out] at hu2 hg2; obtain ⟨k0, k1, k4, m1, m4⟩ := ccell (hu2.heap HC1.out.hc hNE.1)))
    go_loopg [5] (T.length + 2) (fun k t5 wr => ∃ (acc T' : List UInt8) (g cap : Nat), CR wr B bc bb bf bs s T' ln st fd (.slice (some ⟨g, 0, none⟩) acc.length cap) text ends rec ∧ wr.ownsRow B 5 1 (.slice (some ⟨g, 0, none⟩) acc.length cap) acc.length (Lib.byteCells acc) ∧ acc ++ T' = T ∧ 0 < acc.length ∧
        Upd ([bc, bb, bf, bs] ++ vb long) w wr ∧ (g ∈ vb long ∨ w.heap.size ≤ g) ∧ ((t5 = errV fa ∧ (10 : UInt8) ∉ acc ∧ T'.length + 1 ≤ k) ∨ (t5 = .nilIface ∧ acc = fl T) ∨ (t5 = errV ea ∧ acc = fl T)))
    case atStart =>
      obtain ⟨r1, r2⟩ := HC1.out.relong HVB.out hu2 HO2 (fun k hk => by simp [vb] at hk; subst hk; rw [HVB.out] at hg2; exact hg2)
      have HUs : Upd ([bc, bb, bf, bs] ++ vb long) w w2 := (HU.mono (fun k hk => by simp at hk ⊢; omega)).trans (hu2.mono (by rw [HVB.out]; intro k hk; simp [hk]))
      rw [HVB.out] at hg2
      have hz := HU.size
      have hlT : L ++ T.drop 4096 = T := by rw [HLT.out]; exact List.take_append_drop _ _
      have hR4 : CR (w2.setCell ⟨bc, 4, none⟩ (.slice (some ⟨g2, 0, none⟩) (0 + 4096) cap2)) B bc bb bf bs s (T.drop 4096) ln st fd (.slice (some ⟨g2, 0, none⟩) (0 + 4096) cap2) text ends rec := by rw [hLl] at r1; exact r1
      refine ⟨L, T.drop 4096, g2, cap2, ?_, ?_, hlT, by omega, HUs.setCell (by simp) _, ?_, .inl ⟨rfl, ?_, by simp; omega⟩⟩
      · rw [hLl]; exact hR4
      · rw [hLl]; exact r2
      · rcases hg2 with h1 | h1
        · exact .inl h1
        · exact .inr (by omega)
      · rw [HLT.out]; exact HNO.out
    case round =>
      clear hu2 hg2 HO2 k0 k1 k4 m1 m4 c0 c1 c4 f1 f4 HO HN HC1 HLT e1 e2 q1
      obtain ⟨acc, T', g, cap, hc, ho, hT, hpos, HUw, hgw, hcase⟩ := hrel
      have he2 := he.upd HUw (by intro k hk; simp at hk; rcases hk with rfl | rfl | rfl | rfl | hk; all_goals first | assumption | (obtain ⟨n, xs, hol⟩ := h.lg; exact (owns_lt hol k hk).2))
      have e1 := he2.e
      have e2 := he2.f
      have q1 : (binOp .eql 55 (errV fa) (errV fa)).run Tryf.prog wr = .ok (.bool true) wr := eql_same fa wr
      have q2 : (binOp .eql 55 (errV ea) (errV fa)).run Tryf.prog wr = .ok (.bool false) wr := eql_other he2.ne he2.re he2.rf
      have q3 : (binOp .neq 55 (errV ea) (errV ea)).run Tryf.prog wr = .ok (.bool false) wr := neq_same ea wr
      have q4 := fun a => eql_nil a wr
      have q5 : (binOp .eql 55 (errV ea) (errV ea)).run Tryf.prog wr = .ok (.bool true) wr := eql_same ea wr
      obtain ⟨c0, c1, c4, f1, f4⟩ := ccell hc.hc
      rcases hcase with ⟨rfl, hno2, hk⟩ | ⟨rfl, hacc⟩ | ⟨rfl, hacc⟩
      · have HT := hid hT
        have HNO2 := hid hno2
        clear hT hno2
        go_wp2_with fail
        go_fit (slice_any bb bf bs s T' ea fa _ (by exact hc.rs) (by exact he2.e) (by exact he2.f) (by omega) (by omega) (by omega))
        rintro e w3 ⟨HU3, v3, ev3, L3, rfl, hL4, hL3, hR3, hcase3⟩
        have hCl := hid (long_case HT.out HNO2.out hcase3)
        obtain ⟨a3, c3, hv3, _, _, hcells3⟩ := hL3
        have HN3 := hid (news_of hcells3)
        have he3 := he2.upd HU3 (by simp; omega)
        have hc3 := hc.step HU3 (by simp [h.cb, h.cf, h.cs]) (fun k hk => by have := hc.dl k hk; simp [this]) hR3
        have ho3 := owns_upd ho (fun k hk => HU3.block k (owns_lt ho k hk).1 (by have := hc.dl k hk; simp [this]))
        have hTl := hc.rs.len
        have hal : acc.length ≤ 1052696 := by have := h.rs.len; rw [← HT.out] at this; simp at this; omega
        rw [hv3]
        clear c0 c1 c4 f1 f4 hcells3 hcase3 q1 q2 q3 q4 q5 e1 e2
        obtain ⟨c0, c1, c4, f1, f4⟩ := ccell hc3.hc
        have hnb : bc ∉ vb (.slice (some ⟨g, 0, none⟩) acc.length cap) := fun hm => (hc.dl bc hm).1 rfl
        have HC3 := hid hc3
        go_wp2_with (first | (at_builtin; refine wpList_app rfl (.tmp 42) (.tmp 43) 43 rfl B 5 i0 (.int .u8 0) 1 1 Tryf.underlying43 hi hz0 hz1 hz2 rfl (by decide) (.slice (some ⟨g, 0, none⟩) acc.length cap) acc.length (Lib.byteCells acc) rfl ho3 a3 L3.length c3 (Lib.byteCells L3) rfl (by rw [Lib.byteCells_length]; omega) HN3.out (Lib.byteCells_one _) (by omega) (by unfold maxLen; omega) (by omega) (by have := he3.sz; omega) ?_; intro g4 cap4 w4 HO4 hu4 hg4; obtain ⟨k0, k1, k4, m1, m4⟩ := ccell (hu4.heap HC3.out.hc hnb)))
        obtain ⟨r1, r2⟩ := HC3.out.relong rfl hu4 HO4 (fun k hk => by simp [vb] at hk; subst hk; exact hg4)
        have HUs : Upd ([bc, bb, bf, bs] ++ vb long) w w4 := upd_widen (HUw.trans (HU3.mono (fun k hk => by simp at hk ⊢; omega))) hu4 (fun k hk => by simp [vb] at hk; subst hk; rcases hgw with x | x; exact .inl (by simp [x]); exact .inr x)
        have hz3 := HU3.size
        have hz4 := HUw.size
        have hgn : g4 ∈ vb long ∨ w.heap.size ≤ g4 := by
          rcases hg4 with h1 | h1
          · simp [vb] at h1; subst h1; exact hgw
          · exact .inr (by omega)
        have hTT : acc ++ L3 ++ T'.drop L3.length = T := hCl.out.1
        have hlen2 : (acc ++ L3).length = acc.length + L3.length := by simp
        have hbc : Lib.byteCells acc ++ Lib.byteCells L3 = Lib.byteCells (acc ++ L3) := (Lib.byteCells_append _ _).symm
        rw [hbc] at r2
        have hCC := hCl.out.2
        go_roundg (gk - 1)
        case measure => omega
        case rel =>
          refine ⟨acc ++ L3, T'.drop L3.length, g4, cap4, ?_, ?_, hTT, by omega, HUs.setCell (by simp) _, hgn, ?_⟩
          · rw [hlen2]; exact r1
          · rw [hlen2]; exact r2
          · rcases hCC with ⟨h1, h2, h3⟩ | ⟨h1, h2⟩ | ⟨h1, h2⟩
            · exact .inl ⟨h1, h2, by omega⟩
            · exact .inr (.inl ⟨h1, h2⟩)
            · exact .inr (.inr ⟨h1, h2⟩)
      · have HA := hid hacc
        clear hacc
        have hn0 : ((acc.length : Int) == 0) = false := by rw [beq_eq_false_iff_ne]; omega
        go_wp2
        go_ret2
        have hfl := HA.out
        exact ⟨_, g, cap, rfl, by rw [← hfl]; rfl, by rw [← hfl]; exact (LineIn_own ho).upd (heap_set_other _ (by exact (hc.dl g (by simp [vb])).1)), by rw [← hfl, drop_acc hT]; exact hc.bump, HUw.setCell (by simp) _, hgw⟩
      · have HA := hid hacc
        clear hacc
        have hn0 : ((acc.length : Int) == 0) = false := by rw [beq_eq_false_iff_ne]; omega
        go_wp2
        go_ret2
        have hfl := HA.out
        exact ⟨_, g, cap, rfl, by rw [← hfl]; rfl, by rw [← hfl]; exact (LineIn_own ho).upd (heap_set_other _ (by exact (hc.dl g (by simp [vb])).1)), by rw [← hfl, drop_acc hT]; exact hc.bump, HUw.setCell (by simp) _, hgw⟩
  · rw [hlong] at c4
    rw [hlv] at HO
    have HLV := hid hlv
    clear hlv hlong
    go_wp2_with (first | (at_builtin; refine wpList_app rfl (.tmp 22) (.tmp 23) 43 rfl B 5 i0 (.int .u8 0) 1 1 Tryf.underlying43 hi hz0 hz1 hz2 rfl (by decide) (.slice (some ⟨g0, 0, none⟩) 0 cap0) 0 [] rfl HO a 4096 c (Lib.byteCells L) rfl (by rw [Lib.byteCells_length, hLl]) HN.out (Lib.byteCells_one _) (by omega) (by unfold maxLen; omega) (by omega) (by have := he1.sz; omega) ?_; intro g2 cap2 w2 HO2 hu2 hg2; rw [← HLV.out] at hu2 hg2; obtain ⟨k0, k1, k4, m1, m4⟩ := ccell (hu2.heap HC1.out.hc hNE.1)))
    go_loopg [5] (T.length + 2) (fun k t5 wr => ∃ (acc T' : List UInt8) (g cap : Nat), CR wr B bc bb bf bs s T' ln st fd (.slice (some ⟨g, 0, none⟩) acc.length cap) text ends rec ∧ wr.ownsRow B 5 1 (.slice (some ⟨g, 0, none⟩) acc.length cap) acc.length (Lib.byteCells acc) ∧ acc ++ T' = T ∧ 0 < acc.length ∧
        Upd ([bc, bb, bf, bs] ++ vb long) w wr ∧ (g ∈ vb long ∨ w.heap.size ≤ g) ∧ ((t5 = errV fa ∧ (10 : UInt8) ∉ acc ∧ T'.length + 1 ≤ k) ∨ (t5 = .nilIface ∧ acc = fl T) ∨ (t5 = errV ea ∧ acc = fl T)))
    case atStart =>
      obtain ⟨r1, r2⟩ := HC1.out.relong HVB.out hu2 HO2 (fun k hk => by simp [vb] at hk; subst hk; rw [HVB.out] at hg2; exact hg2)
      have HUs : Upd ([bc, bb, bf, bs] ++ vb long) w w2 := (HU.mono (fun k hk => by simp at hk ⊢; omega)).trans (hu2.mono (by rw [HVB.out]; intro k hk; simp [hk]))
      rw [HVB.out] at hg2
      have hz := HU.size
      have hlT : L ++ T.drop 4096 = T := by rw [HLT.out]; exact List.take_append_drop _ _
      have hR4 : CR (w2.setCell ⟨bc, 4, none⟩ (.slice (some ⟨g2, 0, none⟩) (0 + 4096) cap2)) B bc bb bf bs s (T.drop 4096) ln st fd (.slice (some ⟨g2, 0, none⟩) (0 + 4096) cap2) text ends rec := by rw [hLl] at r1; exact r1
      refine ⟨L, T.drop 4096, g2, cap2, ?_, ?_, hlT, by omega, HUs.setCell (by simp) _, ?_, .inl ⟨rfl, ?_, by simp; omega⟩⟩
      · rw [hLl]; exact hR4
      · rw [hLl]; exact r2
      · rcases hg2 with h1 | h1
        · exact .inl h1
        · exact .inr (by omega)
      · rw [HLT.out]; exact HNO.out
    case round =>
      clear hu2 hg2 HO2 k0 k1 k4 m1 m4 c0 c1 c4 f1 f4 HO HN HC1 HLT e1 e2 q1
      obtain ⟨acc, T', g, cap, hc, ho, hT, hpos, HUw, hgw, hcase⟩ := hrel
      have he2 := he.upd HUw (by intro k hk; simp at hk; rcases hk with rfl | rfl | rfl | rfl | hk; all_goals first | assumption | (obtain ⟨n, xs, hol⟩ := h.lg; exact (owns_lt hol k hk).2))
      have e1 := he2.e
      have e2 := he2.f
      have q1 : (binOp .eql 55 (errV fa) (errV fa)).run Tryf.prog wr = .ok (.bool true) wr := eql_same fa wr
      have q2 : (binOp .eql 55 (errV ea) (errV fa)).run Tryf.prog wr = .ok (.bool false) wr := eql_other he2.ne he2.re he2.rf
      have q3 : (binOp .neq 55 (errV ea) (errV ea)).run Tryf.prog wr = .ok (.bool false) wr := neq_same ea wr
      have q4 := fun a => eql_nil a wr
      have q5 : (binOp .eql 55 (errV ea) (errV ea)).run Tryf.prog wr = .ok (.bool true) wr := eql_same ea wr
      obtain ⟨c0, c1, c4, f1, f4⟩ := ccell hc.hc
      rcases hcase with ⟨rfl, hno2, hk⟩ | ⟨rfl, hacc⟩ | ⟨rfl, hacc⟩
      · have HT := hid hT
        have HNO2 := hid hno2
        clear hT hno2
        go_wp2_with fail
        go_fit (slice_any bb bf bs s T' ea fa _ (by exact hc.rs) (by exact he2.e) (by exact he2.f) (by omega) (by omega) (by omega))
        rintro e w3 ⟨HU3, v3, ev3, L3, rfl, hL4, hL3, hR3, hcase3⟩
        have hCl := hid (long_case HT.out HNO2.out hcase3)
        obtain ⟨a3, c3, hv3, _, _, hcells3⟩ := hL3
        have HN3 := hid (news_of hcells3)
        have he3 := he2.upd HU3 (by simp; omega)
        have hc3 := hc.step HU3 (by simp [h.cb, h.cf, h.cs]) (fun k hk => by have := hc.dl k hk; simp [this]) hR3
        have ho3 := owns_upd ho (fun k hk => HU3.block k (owns_lt ho k hk).1 (by have := hc.dl k hk; simp [this]))
        have hTl := hc.rs.len
        have hal : acc.length ≤ 1052696 := by have := h.rs.len; rw [← HT.out] at this; simp at this; omega
        rw [hv3]
        clear c0 c1 c4 f1 f4 hcells3 hcase3 q1 q2 q3 q4 q5 e1 e2
        obtain ⟨c0, c1, c4, f1, f4⟩ := ccell hc3.hc
        have hnb : bc ∉ vb (.slice (some ⟨g, 0, none⟩) acc.length cap) := fun hm => (hc.dl bc hm).1 rfl
        have HC3 := hid hc3
        go_wp2_with (first | (at_builtin; refine wpList_app rfl (.tmp 42) (.tmp 43) 43 rfl B 5 i0 (.int .u8 0) 1 1 Tryf.underlying43 hi hz0 hz1 hz2 rfl (by decide) (.slice (some ⟨g, 0, none⟩) acc.length cap) acc.length (Lib.byteCells acc) rfl ho3 a3 L3.length c3 (Lib.byteCells L3) rfl (by rw [Lib.byteCells_length]; omega) HN3.out (Lib.byteCells_one _) (by omega) (by unfold maxLen; omega) (by omega) (by have := he3.sz; omega) ?_; intro g4 cap4 w4 HO4 hu4 hg4; obtain ⟨k0, k1, k4, m1, m4⟩ := ccell (hu4.heap HC3.out.hc hnb)))
        obtain ⟨r1, r2⟩ := HC3.out.relong rfl hu4 HO4 (fun k hk => by simp [vb] at hk; subst hk; exact hg4)
        have HUs : Upd ([bc, bb, bf, bs] ++ vb long) w w4 := upd_widen (HUw.trans (HU3.mono (fun k hk => by simp at hk ⊢; omega))) hu4 (fun k hk => by simp [vb] at hk; subst hk; rcases hgw with x | x; exact .inl (by simp [x]); exact .inr x)
        have hz3 := HU3.size
        have hz4 := HUw.size
        have hgn : g4 ∈ vb long ∨ w.heap.size ≤ g4 := by
          rcases hg4 with h1 | h1
          · simp [vb] at h1; subst h1; exact hgw
          · exact .inr (by omega)
        have hTT : acc ++ L3 ++ T'.drop L3.length = T := hCl.out.1
        have hlen2 : (acc ++ L3).length = acc.length + L3.length := by simp
        have hbc : Lib.byteCells acc ++ Lib.byteCells L3 = Lib.byteCells (acc ++ L3) := (Lib.byteCells_append _ _).symm
        rw [hbc] at r2
        have hCC := hCl.out.2
        go_roundg (gk - 1)
        case measure => omega
        case rel =>
          refine ⟨acc ++ L3, T'.drop L3.length, g4, cap4, ?_, ?_, hTT, by omega, HUs.setCell (by simp) _, hgn, ?_⟩
          · rw [hlen2]; exact r1
          · rw [hlen2]; exact r2
          · rcases hCC with ⟨h1, h2, h3⟩ | ⟨h1, h2⟩ | ⟨h1, h2⟩
            · exact .inl ⟨h1, h2, by omega⟩
            · exact .inr (.inl ⟨h1, h2⟩)
            · exact .inr (.inr ⟨h1, h2⟩)
      · have HA := hid hacc
        clear hacc
        have hn0 : ((acc.length : Int) == 0) = false := by rw [beq_eq_false_iff_ne]; omega
        go_wp2
        go_ret2
        have hfl := HA.out
        exact ⟨_, g, cap, rfl, by rw [← hfl]; rfl, by rw [← hfl]; exact (LineIn_own ho).upd (heap_set_other _ (by exact (hc.dl g (by simp [vb])).1)), by rw [← hfl, drop_acc hT]; exact hc.bump, HUw.setCell (by simp) _, hgw⟩
      · have HA := hid hacc
        clear hacc
        have hn0 : ((acc.length : Int) == 0) = false := by rw [beq_eq_false_iff_ne]; omega
        go_wp2
        go_ret2
        have hfl := HA.out
        exact ⟨_, g, cap, rfl, by rw [← hfl]; rfl, by rw [← hfl]; exact (LineIn_own ho).upd (heap_set_other _ (by exact (hc.dl g (by simp [vb])).1)), by rw [← hfl, drop_acc hT]; exact hc.bump, HUw.setCell (by simp) _, hgw⟩
end Go.Proofs.Qxb6613956aFmt.W
