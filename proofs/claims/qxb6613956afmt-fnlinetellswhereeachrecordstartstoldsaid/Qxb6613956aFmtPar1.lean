/-
  zzParse, whole.
-/
import Derived.Test.Qxb6613956aFmtPar4
namespace Go.Proofs.Qxb6613956aFmt.W
open Go.RowKit

theorem info3c : (Tryf.prog.info? 3).map (fun i => (i.zero, i.size, i.bytes)) = some (some (.int .i64 0), 1, 8) := by kernel_rfl
theorem info24b : (Tryf.prog.info? 24).map (fun i => (i.zero, i.size, i.bytes)) = some (some (.slice none 0 0), 1, 24) := by kernel_rfl

/-- a start's cell: 1 plus the line feeds ahead of the record, x: the line feeds from there on -/
def stV (s : ByteArray) (x : Nat) : Value := .int .i64 ((s.data.toList.count 10 : Nat) + 1 - (x : Nat) : Int)

/-- what zzParse has laid: the records and their starts -/
structure PI (w wr : World) (s : ByteArray) (t2 t3 : Value) (accs : List (List (List UInt8) × Nat)) (vals : List Value) : Prop where
  o2 : wr.ownsRow w.heap.size 24 1 t2 accs.length vals
  o3 : wr.ownsRow w.heap.size 3 1 t3 accs.length (accs.map fun x => stV s x.2)
  d : ∀ k, k ∈ vb t3 → k ∉ vb t2
  vl : vals.length = accs.length
  rs : ∀ k (h : k < accs.length), ∃ v g c, vals[k]? = some v ∧ v = .slice (some ⟨g, 0, none⟩) (accs[k].1).length c ∧ g ∉ vb t2 ∧ g ∉ vb t3 ∧ g < wr.heap.size ∧ ∀ j (hj : j < (accs[k].1).length), wr.cell? ⟨g, j, none⟩ = some (strV (accs[k].1)[j])
  up : Upd [] w wr

theorem PI.start (w : World) (s : ByteArray) : PI w w s (.slice none 0 0) (.slice none 0 0) [] [] :=
  { o2 := World.ownsRow_nil _ _ _ _, o3 := World.ownsRow_nil _ _ _ _, d := fun k hk => by simp [vb] at hk, vl := rfl, rs := fun k hk => by simp at hk, up := Upd.refl _ _ }

section
variable {w wr w1 w2 w3 : World} {s : ByteArray} {t2 t3 t2' t3' rv : Value} {accs : List (List (List UInt8) × Nat)} {vals : List Value} {acc : List (List UInt8)} {cnt : Nat} {x : Int}
theorem PI.keep2 (h : PI w wr s t2 t3 accs vals) (hu1 : Upd [] wr w1) : w1.ownsRow w.heap.size 24 1 t2 accs.length vals := owns_upd h.o2 fun k hk => hu1.block k (owns_lt h.o2 k hk).1 (by simp)
theorem PI.keep3 (h : PI w wr s t2 t3 accs vals) (hu1 : Upd [] wr w1) (o : Obj) (hu2 : Upd (vb t2) (w1.alloc o) w2) : w2.ownsRow w.heap.size 3 1 t3 accs.length (accs.map fun x => stV s x.2) :=
  owns_upd h.o3 fun k hk => by
    have h1 := (owns_lt h.o3 k hk).1
    have h2 := hu1.size
    rw [hu2.block k (by simp; omega) (h.d k hk), al_old _ _ _ (by omega)]
    exact hu1.block k h1 (by simp)
theorem PI.add (h : PI w wr s t2 t3 accs vals) (hu1 : Upd [] wr w1) (ho : w1.ownsRow wr.heap.size 9 1 rv acc.length (acc.map strV)) (hne : 0 < acc.length) (o o' : Obj)
    (hu2 : Upd (vb t2) (w1.alloc o) w2) (ho2 : w2.ownsRow w.heap.size 24 1 t2' (accs.length + 1) (vals ++ [rv])) (hg2 : ∀ k, k ∈ vb t2' → k ∈ vb t2 ∨ (w1.alloc o).heap.size ≤ k)
    (hu3 : Upd (vb t3) (w2.alloc o') w3) (ho3 : w3.ownsRow w.heap.size 3 1 t3' (accs.length + 1) ((accs.map fun x => stV s x.2) ++ [.int .i64 x])) (hg3 : ∀ k, k ∈ vb t3' → k ∈ vb t3 ∨ (w2.alloc o').heap.size ≤ k)
    (hx : Value.int .i64 x = stV s cnt) : PI w w3 s t2' t3' (accs ++ [(acc, cnt)]) (vals ++ [rv]) := by
  obtain ⟨g, c, rfl, hg0, hg1⟩ := ho.form hne
  have z1 := hu1.size
  have z2 := hu2.size
  have z3 := hu3.size
  simp only [World.size_alloc] at z2 z3 hg2 hg3
  have b2 : ∀ k, k ∈ vb t2 → k < wr.heap.size := fun k hk => (owns_lt h.o2 k hk).1
  have b3 : ∀ k, k ∈ vb t3 → k < wr.heap.size := fun k hk => (owns_lt h.o3 k hk).1
  have b2' : ∀ k, k ∈ vb t2' → k < w2.heap.size := fun k hk => (owns_lt ho2 k hk).1
  -- a block that is in none of the two rows stays
  have stay : ∀ k, k < w1.heap.size → k ∉ vb t2 → k ∉ vb t3 → w3.heap[k]? = w1.heap[k]? := fun k hk h2 h3 => by
    rw [hu3.block k (by simp; omega) h3, al_old _ _ _ (by omega), hu2.block k (by simp; omega) h2, al_old _ _ _ hk]
  have n2 : ∀ k, k < w1.heap.size → k ∉ vb t2 → k ∉ vb t2' := fun k hk h2 hm => by
    rcases hg2 k hm with h' | h'
    · exact h2 h'
    · omega
  have n3 : ∀ k, k < w1.heap.size → k ∉ vb t3 → k ∉ vb t3' := fun k hk h2 hm => by
    rcases hg3 k hm with h' | h'
    · exact h2 h'
    · omega
  refine { o2 := ?_, o3 := ?_, d := ?_, vl := by simp [h.vl], rs := ?_, up := ?_ }
  · rw [List.length_append]
    refine owns_upd ho2 fun k hk => ?_
    have hk3 : k ∉ vb t3 := fun hm => by
      rcases hg2 k hk with h' | h'
      · exact h.d k hm h'
      · have := b3 k hm; omega
    have := b2' k hk
    rw [hu3.block k (by simp; omega) hk3, al_old _ _ _ this]
  · rw [List.length_append, List.map_append, List.map_cons, List.map_nil, ← hx]; exact ho3
  · intro k hk hm
    rcases hg3 k hk with h' | h'
    · have := b3 k h'
      exact n2 k (by omega) (h.d k h') hm
    · have := b2' k hm; omega
  · intro k hk
    rw [List.length_append, List.length_singleton] at hk
    by_cases hlt : k < accs.length
    · obtain ⟨v, g', c', h1, h2, h3, h4, h5, h6⟩ := h.rs k hlt
      refine ⟨v, g', c', by rw [List.getElem?_append_left (by rw [h.vl]; exact hlt)]; exact h1, by rw [List.getElem_append_left hlt]; exact h2, n2 g' (by omega) h3, n3 g' (by omega) h4, by omega, fun j hj => ?_⟩
      have e : w3.heap[g']? = wr.heap[g']? := (stay g' (by omega) h3 h4).trans (hu1.block g' h5 (by simp))
      rw [World.cell?_of_block (w := wr) e]
      simp only [List.getElem_append_left hlt] at hj ⊢
      exact h6 j hj
    · obtain rfl : k = accs.length := by omega
      have hgt2 : g ∉ vb t2 := fun hm => by have := b2 g hm; omega
      have hgt3 : g ∉ vb t3 := fun hm => by have := b3 g hm; omega
      refine ⟨_, g, c, by rw [List.getElem?_append_right (by rw [h.vl]; exact Nat.le_refl _), h.vl, Nat.sub_self]; rfl, by simp, n2 g hg1 hgt2, n3 g hg1 hgt3, by omega, fun j hj => ?_⟩
      simp only [List.getElem_append_right (Nat.le_refl _), Nat.sub_self, List.getElem_cons_zero] at hj ⊢
      rw [World.cell?_of_block (w := w1) (stay g hg1 hgt2 hgt3)]
      exact own_cell ho j _ (by rw [List.getElem?_map, List.getElem?_eq_getElem hj]; rfl)
  · have u2 : Upd [] w w2 := upd_widen ((h.up.trans hu1).alloc o) hu2 (fun k hk => .inr (owns_lt h.o2 k hk).2)
    exact upd_widen (u2.alloc o') hu3 (fun k hk => .inr (owns_lt h.o3 k hk).2)
end

/-- how zzParse ends -/
def POut (w : World) (s : ByteArray) (e : Ending) (w' : World) : Prop :=
  ∃ t2 t3 vals, e = .returned (.tuple #[t2, t3, .bool (ps 0 (tl s 0)).2]) ∧ PI w w' s t2 t3 (ps 0 (tl s 0)).1 vals

theorem POut.mk {w wr : World} {s : ByteArray} {t2 t3 : Value} {accs : List (List (List UInt8) × Nat)} {vals : List Value} {b : Bool} (h : PI w wr s t2 t3 accs vals) (he : ps 0 (tl s 0) = (accs, b)) : POut w s (.returned (.tuple #[t2, t3, .bool b])) wr := by
  refine ⟨t2, t3, vals, ?_, ?_⟩
  · rw [he]
  · rw [he]; exact h
theorem PI.up' {w wr w1 : World} {s : ByteArray} {t2 t3 : Value} {accs : List (List (List UInt8) × Nat)} {vals : List Value} (h : PI w wr s t2 t3 accs vals) (hu : Upd [] wr w1) : PI w w1 s t2 t3 accs vals :=
  { h with
    o2 := h.keep2 hu
    o3 := owns_upd h.o3 fun k hk => hu.block k (owns_lt h.o3 k hk).1 (by simp)
    rs := fun k hk => by
      obtain ⟨v, g, c, h1, h2, h3, h4, h5, h6⟩ := h.rs k hk
      exact ⟨v, g, c, h1, h2, h3, h4, Nat.lt_of_lt_of_le h5 hu.size, fun j hj => (World.cell?_of_block (w := wr) (hu.block g h5 (by simp))).trans (h6 j hj)⟩
    up := h.up.trans hu }

set_option maxRecDepth 100000 in
set_option maxHeartbeats 4000000 in
theorem parse_any (s : ByteArray) (w : World) (hs : s.size ≤ 1048600) :
    Calls Tryf.prog 19 #[.string s] w fun e w' => POut w s e w' := by
  obtain ⟨i24, hi24, hz240, hz241, hz242⟩ := info_parts info24b
  obtain ⟨i3, hi3, hz30, hz31, hz32⟩ := info_parts info3c
  go_enter Tryf.func19, Tryf.ntmps19
  go_wp2_with fail
  go_loopg [2, 3, 5, 6, 7, 8] (s.size + 1) (fun k t2 t3 t5 t6 t7 t8 wr => ∃ (i sn fd : Nat) (accs : List (List (List UInt8) × Nat)) (vals : List Value), t5 = .int .i64 i ∧ t6 = .int .i64 sn ∧ t7 = .int .i64 (cn s sn : Nat) ∧ t8 = .int .i64 fd ∧ s.size - i < k ∧ sn ≤ i ∧ i ≤ s.size ∧ accs.length ≤ i ∧ PI w wr s t2 t3 accs vals ∧ Hid (ps 0 (tl s 0) = (accs ++ (ps fd (tl s i)).1, (ps fd (tl s i)).2)))
  case atStart => exact ⟨0, 0, 0, [], [], rfl, rfl, by rw [cn_zero]; rfl, rfl, by omega, by omega, by omega, by simp, PI.start w s, rfl⟩
  case round =>
    obtain ⟨i, sn, fd, accs, vals, rfl, rfl, rfl, rfl, hk, hsn, hi, hal, hpi, HE⟩ := hrel
    have HPI := hid hpi
    clear hpi
    go_wp2_with fail
    refine loop2 s i hs hi _ _ _ _ _ _ _ _ _ _ _ _ _ _ _ _ _ _ _ _ _ _ _ _ _ _ _ _ _ _ _ _ _ _ _ _ _ _ _ _ _ _ _ _ _ _ _ _ _ _ _ _ _ _ _ _ _ _ _ _ _ _ _ _ _ _ _ _ _ _ _ _ _ _ _ _ _ _ _ _ _ _ _ _ _ _ _ _ _ _ _ _ _ _ _ _ _ _ _ _ _ _ _ _ _ _ _ _ _ _ _ _ _ _ _ _ _ _ _ _ _ _ _ _ _ _ _ _ _ _ _ _ _ _ _ _ _ _ _ _ _ _ _ _ _ _ _ _ _ _ _ _ _ _ _ _ _ _ _ _ _ _ _ _ _ _ _ _ _ _ _ _ _ _ _ _ _ _ _ _ _ _ _ _ _ _ _ _ _ _ _ _ _ _ _ _ _ _ _ _ _ _ _ _ _ _ _ _ _ _ _ _ _ _ _ _ _ _ _ _ _ _ _ _ _ _ _ _ _ _ _ _ _ _ _ _ _ _ _ _ _ wr ?_
    intro j y19 y20 y21 y22 y23 y24 y25 y26 y27 y28 y29 y30 y31 y32 y33 y34 y35 y36 y37 y38 y39 y40 y41 y42 y43 y44 y45 y46 y47 y48 y49 y50 y51 y52 y53 y54 y55 y56 y57 y58 y59 y60 y61 y62 y63 hij hj hsk
    have HSK := hid hsk
    clear hsk
    by_cases hlt : j < s.size
    · have hltI : ¬ ((s.size : Int) ≤ j) := by omega
      go_wp2_with fail
      refine loop3 s j sn hs hj (by omega) _ _ _ _ _ _ _ _ _ _ _ _ _ _ _ _ _ _ _ _ _ _ _ _ _ _ _ _ _ _ _ _ _ _ _ _ _ _ _ _ _ _ _ _ _ _ _ _ _ _ _ _ _ _ _ _ _ _ _ _ _ _ _ _ _ _ _ _ _ _ _ _ _ _ _ _ _ _ _ _ _ _ _ _ _ _ _ _ _ _ _ _ _ _ _ _ _ _ _ _ _ _ _ _ _ _ _ _ _ _ _ _ _ _ _ _ _ _ _ _ _ _ _ _ _ _ _ _ _ _ _ _ _ _ _ _ _ _ _ _ _ _ _ _ _ _ _ _ _ _ _ _ _ _ _ _ _ _ _ _ _ _ _ _ _ _ _ _ _ _ _ _ _ _ _ _ _ _ _ _ _ _ _ _ _ _ _ _ _ _ _ _ _ _ _ _ _ _ _ _ _ _ _ _ _ _ _ _ _ _ _ _ _ _ _ _ _ _ _ _ _ _ _ _ _ _ _ _ _ _ _ _ _ _ _ _ _ _ _ wr ?_
      intro y70 y71 y72 y73 y74 y75 y76 y77 y78 y79 y80
      have hne : tl s j ≠ [] := tl_ne hlt
      have hcl := cn_le s j
      have hca := cn_all s j
      have HNE := hid hne
      have HCA := hid hca
      clear hne hca
      go_wp2_with fail
      refine loop4 s j hs hj _ _ _ _ _ _ _ _ _ _ _ _ _ _ _ _ _ _ _ _ _ _ _ _ _ _ _ _ _ _ _ _ _ _ _ _ _ _ _ _ _ _ _ _ _ _ _ _ _ _ _ _ _ _ _ _ _ _ _ _ _ _ _ _ _ _ _ _ _ _ _ _ _ _ _ _ _ _ _ _ _ _ _ _ _ _ _ _ _ _ _ _ _ _ _ _ _ _ _ _ _ _ _ _ _ _ _ _ _ _ _ _ _ _ _ _ _ _ _ _ _ _ _ _ _ _ _ _ _ _ _ _ _ _ _ _ _ _ _ _ _ _ _ _ _ _ _ _ _ _ _ _ _ _ _ _ _ _ _ _ _ _ _ _ _ _ _ _ _ _ _ _ _ _ _ _ _ _ _ _ _ _ _ _ _ _ _ _ _ _ _ _ _ _ _ _ _ _ _ _ _ _ _ _ _ _ _ _ _ _ _ _ _ _ _ _ _ _ _ _ _ _ _ _ _ _ _ _ _ _ _ _ _ _ _ _ _ _ _ wr ?_ ?_
      · intro acc i2 rv z2 z3 z4 z10 z11 z12 z13 z14 z15 z16 z17 z18 z81 z82 z83 z84 z85 z86 z87 z88 z89 z90 z91 z92 z93 z94 z95 z96 z97 z98 z99 z100 z101 z102 z103 z104 z105 z106 z107 z108 z109 z110 z111 z112 z113 z114 z115 z116 z117 z118 z119 z120 z121 z122 z123 z124 z125 z126 z127 z128 z129 z130 z131 z132 z133 z134 z135 z136 z137 z138 z139 z140 z141 z142 z143 z144 z145 z146 z147 z148 z149 z150 z151 z152 z153 z154 z155 z156 z157 z158 z159 z160 z161 z162 z163 z164 z165 z166 z167 z168 z169 z170 z171 z172 z173 z174 z175 z176 z177 z178 z179 z180 z181 z182 z183 z184 z185 z186 z187 z188 z189 z190 z191 z192 z193 z194 z195 z196 z197 z198 z199 z200 z201 z202 z203 z204 z205 z206 z207 z208 z209 z210 z211 z212 z213 z214 z215 z216 z217 z218 z219 z220 z221 z222 w1 hme e2' e3'
        subst e2' e3'
        obtain ⟨g, c, rfl, _, _⟩ := hme.ow.form hme.ne
        have hi2 := hme.hi
        have hac := hme.ct
        have han := hme.ne
        have hup := hme.up
        have HME := hid hme
        clear hme
        have hsh : s.size - i2 < s.size - j := by
          have := (rc_len _ (Nat.le_refl _) HME.out.eq).1 HNE.out
          rw [tl_len, tl_len] at this
          exact this
        have hz1 := hup.size
        have hz0 := HPI.out.up.size
        have HX : Hid (Value.int .i64 ((cn s j : Nat) + 1 : Int) = stV s ((tl s j).count 10)) := by
          show _ = _
          unfold stV
          have := HCA.out
          congr 1
          omega
        rcases (show (fd ≠ 0 ∧ acc.length ≠ fd) ∨ fd = 0 ∨ (fd ≠ 0 ∧ acc.length = fd) by omega) with ⟨hfd, hnl⟩ | hfd | ⟨hfd, hnl⟩
        · have hfb : ((fd : Int) == 0) = false := by rw [beq_eq_false_iff_ne]; omega
          have hnb2 : ((acc.length : Int) == (fd : Int)) = false := by rw [beq_eq_false_iff_ne]; omega
          have hnb : ((acc.length : Int) != (fd : Int)) = true := by simp [bne, hnb2]
          have HFD := hid (And.intro hfd hnl)
          clear hfd hnl
          go_wp2_with fail
          go_ret3
          refine POut.mk (HPI.out.up' hup) ?_
          rw [HE.out, ps_wrong (by rw [HSK.out]; exact HNE.out) (by rw [HSK.out]; exact HME.out.eq) HFD.out.1 HFD.out.2, List.append_nil]
        · have hfb : ((fd : Int) == 0) = true := by simp [hfd]
          have HFD := hid (show fd = 0 ∨ acc.length = fd from .inl hfd)
          clear hfd
          go_wp2_with (first | (at_builtin; refine wpList_app0 rfl (.tmp 233) (.tmp 235) 22 rfl w.heap.size 24 i24 (.slice none 0 0) 1 24 Tryf.underlying22 hi24 hz240 hz241 hz242 rfl (by decide) z2 accs.length vals rfl ((HPI.out.keep2 hup).alloc _) ⟨w1.heap.size, 0, none⟩ 1 1 [.slice (some ⟨g, 0, none⟩) acc.length c] rfl rfl (cell_one_new _ _ _) (by intro u hu; simp at hu; subst hu; rfl) (by unfold maxLen; omega) (by omega) (by simp; omega) ?_; intro p5 c5 w5 HO5 hu5 hg5; have hz5 := hu5.size; have HK3 := hid (HPI.out.keep3 hup _ hu5)) | (at_builtin; refine wpList_app0 rfl (.tmp 237) (.tmp 240) 39 rfl w.heap.size 3 i3 (.int .i64 0) 1 8 Tryf.underlying39 hi3 hz30 hz31 hz32 rfl (by decide) z3 accs.length _ rfl (HK3.out.alloc _) ⟨w5.heap.size, 0, none⟩ 1 1 [.int .i64 ((cn s j : Nat) + 1 : Int)] rfl rfl (cell_one_new _ _ _) (by intro u hu; simp at hu; subst hu; rfl) (by unfold maxLen; omega) (by omega) (by simp at hz5 ⊢; omega) ?_; intro p6 c6 w6 HO6 hu6 hg6))
          have HN := hid (HPI.out.add hup HME.out.ow han _ _ hu5 HO5 hg5 hu6 HO6 hg6 HX.out)
          have HE2 := hid (show ps 0 (tl s 0) = ((accs ++ [(acc, (tl s j).count 10)]) ++ (ps acc.length (tl s i2)).1, (ps acc.length (tl s i2)).2) by
            rw [HE.out, ps_rec (by rw [HSK.out]; exact HNE.out) (by rw [HSK.out]; exact HME.out.eq) HFD.out, HSK.out]
            simp)
          clear HO5 hu5 hg5 HO6 hu6 hg6 HK3 hz5
          go_roundg (gk - 1)
          case measure => omega
          case rel => exact ⟨i2, j, acc.length, _, _, rfl, rfl, rfl, rfl, by omega, by omega, hi2, by simp; omega, HN.out, HE2.out⟩
        · have hfb : ((fd : Int) == 0) = false := by rw [beq_eq_false_iff_ne]; omega
          have hnb2 : ((acc.length : Int) == (fd : Int)) = true := by simp [hnl]
          have hnb : ((acc.length : Int) != (fd : Int)) = false := by simp [hnl]
          have HFD := hid (show fd = 0 ∨ acc.length = fd from .inr hnl)
          have HNL := hid hnl
          clear hfd hnl
          go_wp2_with (first | (at_builtin; refine wpList_app0 rfl (.tmp 233) (.tmp 235) 22 rfl w.heap.size 24 i24 (.slice none 0 0) 1 24 Tryf.underlying22 hi24 hz240 hz241 hz242 rfl (by decide) z2 accs.length vals rfl ((HPI.out.keep2 hup).alloc _) ⟨w1.heap.size, 0, none⟩ 1 1 [.slice (some ⟨g, 0, none⟩) acc.length c] rfl rfl (cell_one_new _ _ _) (by intro u hu; simp at hu; subst hu; rfl) (by unfold maxLen; omega) (by omega) (by simp; omega) ?_; intro p5 c5 w5 HO5 hu5 hg5; have hz5 := hu5.size; have HK3 := hid (HPI.out.keep3 hup _ hu5)) | (at_builtin; refine wpList_app0 rfl (.tmp 237) (.tmp 240) 39 rfl w.heap.size 3 i3 (.int .i64 0) 1 8 Tryf.underlying39 hi3 hz30 hz31 hz32 rfl (by decide) z3 accs.length _ rfl (HK3.out.alloc _) ⟨w5.heap.size, 0, none⟩ 1 1 [.int .i64 ((cn s j : Nat) + 1 : Int)] rfl rfl (cell_one_new _ _ _) (by intro u hu; simp at hu; subst hu; rfl) (by unfold maxLen; omega) (by omega) (by simp at hz5 ⊢; omega) ?_; intro p6 c6 w6 HO6 hu6 hg6))
          have HN := hid (HPI.out.add hup HME.out.ow han _ _ hu5 HO5 hg5 hu6 HO6 hg6 HX.out)
          have HE2 := hid (show ps 0 (tl s 0) = ((accs ++ [(acc, (tl s j).count 10)]) ++ (ps acc.length (tl s i2)).1, (ps acc.length (tl s i2)).2) by
            rw [HE.out, ps_rec (by rw [HSK.out]; exact HNE.out) (by rw [HSK.out]; exact HME.out.eq) HFD.out, HSK.out]
            simp)
          clear HO5 hu5 hg5 HO6 hu6 hg6 HK3 hz5
          go_roundg (gk - 1)
          case measure => omega
          case rel => exact ⟨i2, j, acc.length, _, _, rfl, rfl, rfl, by rw [HNL.out], by omega, by omega, hi2, by simp; omega, HN.out, HE2.out⟩
      · intro z5 z9 z10 z11 z12 z13 z14 z15 z16 z17 z18 z81 z82 z83 z84 z85 z86 z87 z88 z89 z90 z91 z92 z93 z94 z95 z96 z97 z98 z99 z100 z101 z102 z103 z104 z105 z106 z107 z108 z109 z110 z111 z112 z113 z114 z115 z116 z117 z118 z119 z120 z121 z122 z123 z124 z125 z126 z127 z128 z129 z130 z131 z132 z133 z134 z135 z136 z137 z138 z139 z140 z141 z142 z143 z144 z145 z146 z147 z148 z149 z150 z151 z152 z153 z154 z155 z156 z157 z158 z159 z160 z161 z162 z163 z164 z165 z166 z167 z168 z169 z170 z171 z172 z173 z174 z175 z176 z177 z178 z179 z180 z181 z182 z183 z184 z185 z186 z187 z188 z189 z190 z191 z192 z193 z194 z195 z196 z197 z198 z199 z200 z201 z202 z203 z204 z205 z206 z207 z208 z209 z210 z211 z212 z213 z214 z215 z216 z217 z218 z219 z220 z221 z222 w1 hrn hup
        have HRN := hid hrn
        clear hrn
        go_wp2_with fail
        go_ret3
        refine POut.mk (HPI.out.up' hup) ?_
        rw [HE.out, ps_bad (by rw [HSK.out]; exact HNE.out) (by rw [HSK.out]; exact HRN.out), List.append_nil]
    · have hltI : (s.size : Int) ≤ j := by omega
      go_wp2_with fail
      go_ret3
      refine POut.mk HPI.out ?_
      rw [HE.out, ps_end (by rw [HSK.out, tl_nil (by omega)]), List.append_nil]
end Go.Proofs.Qxb6613956aFmt.W
