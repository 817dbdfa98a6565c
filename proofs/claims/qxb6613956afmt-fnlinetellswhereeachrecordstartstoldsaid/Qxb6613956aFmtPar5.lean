/-
  zzParse: the loop over a quoted field.
-/
import Derived.Test.Qxb6613956aFmtPar2
import Derived.Lib.AppendStr
namespace Go.Proofs.Qxb6613956aFmt.W
open Go.RowKit

theorem strCells_pc (s : ByteArray) (a b : Nat) : Lib.strCells (s.extract a b) = Lib.byteCells (pc s a b) := by
  rw [ext_pc]; rfl
theorem size_pc (s : ByteArray) (a b : Nat) : (s.extract a b).size = (pc s a b).length := by rw [ext_pc]; rfl

/-- what the loop over a quoted field keeps -/
structure LI (w wr : World) (s : ByteArray) (j0 j : Nat) (acc : List UInt8) (tv : Value) : Prop where
  ow : wr.ownsRow w.heap.size 5 1 tv acc.length (Lib.byteCells acc)
  up : Upd [] w wr
  eq : quo (tl s j0) = ahead acc (quo (tl s j))
  hj : j ≤ s.size
  ct : acc.length ≤ j
  jj : j0 ≤ j

theorem own_upd {w wr w2 : World} {e n : Nat} {v : Value} {xs : List Value} (hu : Upd [] w wr) (ho : wr.ownsRow w.heap.size e 1 v n xs) (hg : Upd (vb v) wr w2) : Upd [] w w2 :=
  upd_widen hu hg (fun k hk => .inr (owns_lt ho k hk).2)

/-- the piece up to the quote at k -/
theorem LI.piece {w wr w4 : World} {s : ByteArray} {j0 j k : Nat} {acc : List UInt8} {tv v4 : Value} (h : LI w wr s j0 j acc tv) (hk : j ≤ k) (hks : k < s.size) (hc : s[k] = 34)
    (ho : w4.ownsRow w.heap.size 5 1 v4 (acc.length + (s.extract j k).size) (Lib.byteCells acc ++ Lib.strCells (s.extract j k))) (hg : wr.grownBy w4 tv.ownBlock) :
    w4.ownsRow w.heap.size 5 1 v4 (acc ++ pc s j k).length (Lib.byteCells (acc ++ pc s j k)) ∧ Upd [] w w4 ∧ (acc ++ pc s j k).length ≤ k ∧ tl s j = pc s j k ++ 34 :: tl s (k + 1) := by
  refine ⟨?_, own_upd h.up h.ow (grown_upd hg (fun k hk => (ownBlock_vb tv k).1 hk)), ?_, ?_⟩
  · rw [List.length_append, Lib.byteCells_append, ← strCells_pc, ← size_pc]; exact ho
  · have := h.ct
    rw [List.length_append, pc_len (by omega)]; omega
  · rw [pc_split hk (by omega)]
    congr 1
    rw [tl_cons hks, hc]
theorem LI.two {w wr w4 w5 : World} {s : ByteArray} {j0 j k n5 : Nat} {acc : List UInt8} {tv v4 v5 : Value} (h : LI w wr s j0 j acc tv)
    (hp : w4.ownsRow w.heap.size 5 1 v4 (acc ++ pc s j k).length (Lib.byteCells (acc ++ pc s j k)) ∧ Upd [] w w4 ∧ (acc ++ pc s j k).length ≤ k ∧ tl s j = pc s j k ++ 34 :: tl s (k + 1)) (h34 : (34 : UInt8) ∉ pc s j k) (hn : k + 1 < s.size) (hc : s[k + 1] = 34) (o : Obj)
    (hu : Upd (vb v4) (w4.alloc o) w5) (hn5 : (acc ++ pc s j k).length + 1 = n5) (ho : w5.ownsRow w.heap.size 5 1 v5 n5 (Lib.byteCells (acc ++ pc s j k) ++ [.int .u8 34])) : LI w w5 s j0 (k + 2) (acc ++ pc s j k ++ [34]) v5 := by
  obtain ⟨p1, p2, p3, p4⟩ := hp
  subst hn5
  have hct := h.ct
  refine { ow := ?_, up := upd_widen (p2.alloc o) hu (fun k hk => .inr (owns_lt p1 k hk).2), eq := ?_, hj := by omega, ct := by rw [List.length_append, List.length_singleton]; omega, jj := ?_ }
  · rw [List.length_append, List.length_singleton, Lib.byteCells_append]; exact ho
  · rw [h.eq, p4, tl_cons hn, hc, quo_two _ _ h34, ahead_ahead, List.append_assoc]
  · have := h.jj
    have hl := congrArg List.length p4
    rw [tl_len, List.length_append, List.length_cons, tl_len] at hl
    omega
theorem LI.none {w wr : World} {s : ByteArray} {j0 j : Nat} {acc : List UInt8} {tv : Value} (h : LI w wr s j0 j acc tv) (h34 : (34 : UInt8) ∉ pc s j s.size) : quo (tl s j0) = none := by
  have e := pc_split (s := s) h.hj (Nat.le_refl _)
  rw [tl_nil (Nat.le_refl _), List.append_nil] at e
  rw [h.eq, e, quo_none _ h34]; rfl

set_option maxRecDepth 100000 in
set_option maxHeartbeats 1000000 in
theorem loop5 (s : ByteArray) (j0 : Nat) (hs : s.size ≤ 1048600) (hj0 : j0 ≤ s.size) (u1 u2 u3 u4 u5 u6 u7 u8 u9 u10 u11 u14 u15 u16 u17 u18 u19 u20 u21 u22 u23 u24 u25 u26 u27 u28 u29 u30 u31 u32 u33 u34 u35 u36 u37 u38 u39 u40 u41 u42 u43 u44 u45 u46 u47 u48 u49 u50 u51 u52 u53 u54 u55 u56 u57 u58 u59 u60 u61 u62 u63 u64 u65 u66 u67 u68 u69 u70 u71 u72 u73 u74 u75 u76 u77 u78 u79 u80 u81 u82 u83 u84 u85 u86 u87 u88 u89 u90 u91 u92 u93 u94 u95 u96 u97 u98 u99 u100 u101 u102 u103 u104 u105 u106 u107 u108 u109 u110 u111 u112 u113 u114 u115 u116 u117 u118 u119 u120 u121 u122 u123 u124 u125 u126 u127 u128 u129 u130 u131 u132 u133 u134 u135 u136 u137 u138 u139 u140 u141 u142 u143 u144 u145 u146 u147 u148 u149 u150 u151 u152 u153 u154 u155 u156 u157 u158 u159 u160 u161 u162 u163 u164 u165 u166 u167 u168 u169 u170 u171 u172 u173 u174 u175 u176 u177 u178 u179 u180 u181 u182 u183 u184 u185 u186 u187 u188 u189 u190 u191 u192 u193 u194 u195 u196 u197 u198 u199 u200 u201 u202 u203 u204 u205 u206 u207 u208 u209 u210 u211 u212 u213 u214 u215 u216 u217 u218 u219 u220 u221 u222 u223 u224 u225 u226 u227 u228 u229 u230 u231 u232 u233 u234 u235 u236 u237 u238 u239 u240 u241 : Value) (Q0 : Exit → Act → World → Prop) (w : World)
    (hexit : ∀ (acc : List UInt8) (j : Nat) (tv : Value) (x2 x3 x4 x14 x97 x98 x99 x100 x101 x102 x103 x104 x105 x106 x107 x108 x109 x110 x111 x112 x113 x114 x115 x116 x117 x118 x119 x120 x121 x122 x123 x124 x125 x126 x127 x128 x129 x130 x131 x132 x133 x134 x135 x136 x137 x138 : Value) (w' : World), quo (tl s j0) = some (acc, tl s j) → j ≤ s.size → acc.length ≤ j → w'.ownsRow w.heap.size 5 1 tv acc.length (Lib.byteCells acc) → Upd [] w w' → x2 = u2 → x3 = u3 → Q0 (.exit 8) ⟨(.string s :: u1 :: x2 :: x3 :: x4 :: u5 :: u6 :: u7 :: u8 :: u9 :: u10 :: u11 :: tv :: .int .i64 j :: x14 :: u15 :: u16 :: u17 :: u18 :: u19 :: u20 :: u21 :: u22 :: u23 :: u24 :: u25 :: u26 :: u27 :: u28 :: u29 :: u30 :: u31 :: u32 :: u33 :: u34 :: u35 :: u36 :: u37 :: u38 :: u39 :: u40 :: u41 :: u42 :: u43 :: u44 :: u45 :: u46 :: u47 :: u48 :: u49 :: u50 :: u51 :: u52 :: u53 :: u54 :: u55 :: u56 :: u57 :: u58 :: u59 :: u60 :: u61 :: u62 :: u63 :: u64 :: u65 :: u66 :: u67 :: u68 :: u69 :: u70 :: u71 :: u72 :: u73 :: u74 :: u75 :: u76 :: u77 :: u78 :: u79 :: u80 :: u81 :: u82 :: u83 :: u84 :: u85 :: u86 :: u87 :: u88 :: u89 :: u90 :: u91 :: u92 :: u93 :: u94 :: u95 :: u96 :: x97 :: x98 :: x99 :: x100 :: x101 :: x102 :: x103 :: x104 :: x105 :: x106 :: x107 :: x108 :: x109 :: x110 :: x111 :: x112 :: x113 :: x114 :: x115 :: x116 :: x117 :: x118 :: x119 :: x120 :: x121 :: x122 :: x123 :: x124 :: x125 :: x126 :: x127 :: x128 :: x129 :: x130 :: x131 :: x132 :: x133 :: x134 :: x135 :: x136 :: x137 :: x138 :: u139 :: u140 :: u141 :: u142 :: u143 :: u144 :: u145 :: u146 :: u147 :: u148 :: u149 :: u150 :: u151 :: u152 :: u153 :: u154 :: u155 :: u156 :: u157 :: u158 :: u159 :: u160 :: u161 :: u162 :: u163 :: u164 :: u165 :: u166 :: u167 :: u168 :: u169 :: u170 :: u171 :: u172 :: u173 :: u174 :: u175 :: u176 :: u177 :: u178 :: u179 :: u180 :: u181 :: u182 :: u183 :: u184 :: u185 :: u186 :: u187 :: u188 :: u189 :: u190 :: u191 :: u192 :: u193 :: u194 :: u195 :: u196 :: u197 :: u198 :: u199 :: u200 :: u201 :: u202 :: u203 :: u204 :: u205 :: u206 :: u207 :: u208 :: u209 :: u210 :: u211 :: u212 :: u213 :: u214 :: u215 :: u216 :: u217 :: u218 :: u219 :: u220 :: u221 :: u222 :: u223 :: u224 :: u225 :: u226 :: u227 :: u228 :: u229 :: u230 :: u231 :: u232 :: u233 :: u234 :: u235 :: u236 :: u237 :: u238 :: u239 :: u240 :: u241 :: []).toArray, []⟩ w')
    (hret : ∀ (x12 x13 x14 x97 x98 x99 x100 x101 x102 x103 x104 x105 x106 x107 x108 x109 x110 x111 x112 x113 x114 x115 x116 x117 x118 x119 x120 x121 x122 x123 x124 x125 x126 x127 x128 x129 x130 x131 x132 x133 x134 x135 x136 x137 x138 : Value) (w' : World), quo (tl s j0) = none → Upd [] w w' → Q0 .ret ⟨(.string s :: u1 :: u2 :: u3 :: .bool false :: u5 :: u6 :: u7 :: u8 :: u9 :: u10 :: u11 :: x12 :: x13 :: x14 :: u15 :: u16 :: u17 :: u18 :: u19 :: u20 :: u21 :: u22 :: u23 :: u24 :: u25 :: u26 :: u27 :: u28 :: u29 :: u30 :: u31 :: u32 :: u33 :: u34 :: u35 :: u36 :: u37 :: u38 :: u39 :: u40 :: u41 :: u42 :: u43 :: u44 :: u45 :: u46 :: u47 :: u48 :: u49 :: u50 :: u51 :: u52 :: u53 :: u54 :: u55 :: u56 :: u57 :: u58 :: u59 :: u60 :: u61 :: u62 :: u63 :: u64 :: u65 :: u66 :: u67 :: u68 :: u69 :: u70 :: u71 :: u72 :: u73 :: u74 :: u75 :: u76 :: u77 :: u78 :: u79 :: u80 :: u81 :: u82 :: u83 :: u84 :: u85 :: u86 :: u87 :: u88 :: u89 :: u90 :: u91 :: u92 :: u93 :: u94 :: u95 :: u96 :: x97 :: x98 :: x99 :: x100 :: x101 :: x102 :: x103 :: x104 :: x105 :: x106 :: x107 :: x108 :: x109 :: x110 :: x111 :: x112 :: x113 :: x114 :: x115 :: x116 :: x117 :: x118 :: x119 :: x120 :: x121 :: x122 :: x123 :: x124 :: x125 :: x126 :: x127 :: x128 :: x129 :: x130 :: x131 :: x132 :: x133 :: x134 :: x135 :: x136 :: x137 :: x138 :: u139 :: u140 :: u141 :: u142 :: u143 :: u144 :: u145 :: u146 :: u147 :: u148 :: u149 :: u150 :: u151 :: u152 :: u153 :: u154 :: u155 :: u156 :: u157 :: u158 :: u159 :: u160 :: u161 :: u162 :: u163 :: u164 :: u165 :: u166 :: u167 :: u168 :: u169 :: u170 :: u171 :: u172 :: u173 :: u174 :: u175 :: u176 :: u177 :: u178 :: u179 :: u180 :: u181 :: u182 :: u183 :: u184 :: u185 :: u186 :: u187 :: u188 :: u189 :: u190 :: u191 :: u192 :: u193 :: u194 :: u195 :: u196 :: u197 :: u198 :: u199 :: u200 :: u201 :: u202 :: u203 :: u204 :: u205 :: u206 :: u207 :: u208 :: u209 :: u210 :: u211 :: u212 :: u213 :: u214 :: u215 :: u216 :: u217 :: u218 :: u219 :: u220 :: u221 :: u222 :: u223 :: u224 :: u225 :: u226 :: u227 :: u228 :: u229 :: u230 :: u231 :: u232 :: u233 :: u234 :: u235 :: u236 :: u237 :: u238 :: u239 :: u240 :: u241 :: []).toArray, []⟩ w') :
    Code.wp Tryf.prog (Code.loop ((loopsIn ((loopsIn ((loopsIn (Tryf.f19.body.getD .skip)).getD 0 .skip)).getD 2 .skip)).getD 0 .skip)) Q0 ⟨(.string s :: u1 :: u2 :: u3 :: u4 :: u5 :: u6 :: u7 :: u8 :: u9 :: u10 :: u11 :: .slice none 0 0 :: .int .i64 j0 :: u14 :: u15 :: u16 :: u17 :: u18 :: u19 :: u20 :: u21 :: u22 :: u23 :: u24 :: u25 :: u26 :: u27 :: u28 :: u29 :: u30 :: u31 :: u32 :: u33 :: u34 :: u35 :: u36 :: u37 :: u38 :: u39 :: u40 :: u41 :: u42 :: u43 :: u44 :: u45 :: u46 :: u47 :: u48 :: u49 :: u50 :: u51 :: u52 :: u53 :: u54 :: u55 :: u56 :: u57 :: u58 :: u59 :: u60 :: u61 :: u62 :: u63 :: u64 :: u65 :: u66 :: u67 :: u68 :: u69 :: u70 :: u71 :: u72 :: u73 :: u74 :: u75 :: u76 :: u77 :: u78 :: u79 :: u80 :: u81 :: u82 :: u83 :: u84 :: u85 :: u86 :: u87 :: u88 :: u89 :: u90 :: u91 :: u92 :: u93 :: u94 :: u95 :: u96 :: u97 :: u98 :: u99 :: u100 :: u101 :: u102 :: u103 :: u104 :: u105 :: u106 :: u107 :: u108 :: u109 :: u110 :: u111 :: u112 :: u113 :: u114 :: u115 :: u116 :: u117 :: u118 :: u119 :: u120 :: u121 :: u122 :: u123 :: u124 :: u125 :: u126 :: u127 :: u128 :: u129 :: u130 :: u131 :: u132 :: u133 :: u134 :: u135 :: u136 :: u137 :: u138 :: u139 :: u140 :: u141 :: u142 :: u143 :: u144 :: u145 :: u146 :: u147 :: u148 :: u149 :: u150 :: u151 :: u152 :: u153 :: u154 :: u155 :: u156 :: u157 :: u158 :: u159 :: u160 :: u161 :: u162 :: u163 :: u164 :: u165 :: u166 :: u167 :: u168 :: u169 :: u170 :: u171 :: u172 :: u173 :: u174 :: u175 :: u176 :: u177 :: u178 :: u179 :: u180 :: u181 :: u182 :: u183 :: u184 :: u185 :: u186 :: u187 :: u188 :: u189 :: u190 :: u191 :: u192 :: u193 :: u194 :: u195 :: u196 :: u197 :: u198 :: u199 :: u200 :: u201 :: u202 :: u203 :: u204 :: u205 :: u206 :: u207 :: u208 :: u209 :: u210 :: u211 :: u212 :: u213 :: u214 :: u215 :: u216 :: u217 :: u218 :: u219 :: u220 :: u221 :: u222 :: u223 :: u224 :: u225 :: u226 :: u227 :: u228 :: u229 :: u230 :: u231 :: u232 :: u233 :: u234 :: u235 :: u236 :: u237 :: u238 :: u239 :: u240 :: u241 :: []).toArray, []⟩ w := by
  obtain ⟨i0, hi0, hz0, hz1, hz2⟩ := info_parts info5b
  conv => arg 2; arg 1; whnf
  go_loopg [2, 3, 12, 13] (s.size + 1) (fun k t2 t3 t12 t13 wr => t2 = u2 ∧ t3 = u3 ∧ ∃ (j : Nat) (acc : List UInt8), t13 = .int .i64 j ∧ s.size - j < k ∧ LI w wr s j0 j acc t12)
  case atStart => exact ⟨rfl, rfl, j0, [], rfl, by omega, { ow := World.ownsRow_nil _ _ _ _, up := Upd.refl _ _, eq := (ahead_nil _).symm, hj := hj0, ct := by simp, jj := Nat.le_refl _ }⟩
  case round =>
    obtain ⟨h2, h3, j, acc, rfl, hk, hli⟩ := hrel
    have H2 := hid h2
    have H3 := hid h3
    clear h2 h3
    have HEX := hid hexit
    clear hexit
    have HRT := hid hret
    clear hret
    have hj := hli.hj
    have hct := hli.ct
    have HLI := hid hli
    clear hli
    go_wp2_with fail
    refine loop6 s j hs hj _ _ _ _ _ _ _ _ _ _ _ _ _ _ _ _ _ _ _ _ _ _ _ _ _ _ _ _ _ _ _ _ _ _ _ _ _ _ _ _ _ _ _ _ _ _ _ _ _ _ _ _ _ _ _ _ _ _ _ _ _ _ _ _ _ _ _ _ _ _ _ _ _ _ _ _ _ _ _ _ _ _ _ _ _ _ _ _ _ _ _ _ _ _ _ _ _ _ _ _ _ _ _ _ _ _ _ _ _ _ _ _ _ _ _ _ _ _ _ _ _ _ _ _ _ _ _ _ _ _ _ _ _ _ _ _ _ _ _ _ _ _ _ _ _ _ _ _ _ _ _ _ _ _ _ _ _ _ _ _ _ _ _ _ _ _ _ _ _ _ _ _ _ _ _ _ _ _ _ _ _ _ _ _ _ _ _ _ _ _ _ _ _ _ _ _ _ _ _ _ _ _ _ _ _ _ _ _ _ _ _ _ _ _ _ _ _ _ _ _ _ _ _ _ _ _ _ _ _ _ _ _ _ _ _ _ _ _ _ _ _ wr ?_
    intro k x98 x99 x100 x101 x102 x103 x104 x105 x106 x107 x108 x109 hjk hks h34 hor
    have H34 := hid h34
    clear h34
    rcases hor with hor | ⟨hlt, hc⟩
    · have hb : ((k : Int) == (s.size : Int)) = true := by rw [beq_iff_eq]; omega
      have HOR := hid hor
      clear hor
      go_wp2_with fail
      have e2 := H2.out
      have e3 := H3.out
      subst e2 e3
      exact HRT.out _ _ _ _ _ _ _ _ _ _ _ _ _ _ _ _ _ _ _ _ _ _ _ _ _ _ _ _ _ _ _ _ _ _ _ _ _ _ _ _ _ _ _ _ _ wr (HLI.out.none (by rw [← HOR.out]; exact H34.out)) HLI.out.up
    · have hb : ((k : Int) == (s.size : Int)) = false := by rw [beq_eq_false_iff_ne]; omega
      have b1 : (j : Int) ≤ k := by omega
      have b2 : (k : Int) ≤ s.size := by omega
      have hbs := HLI.out.up.size
      have hxs : (s.extract j k).size ≤ 1048600 := by rw [size_pc, pc_len (by omega)]; omega
      have HC := hid hc
      clear hc
      by_cases hn : k + 1 < s.size
      · have hnI : (k : Int) + 1 < s.size := by omega
        cases c34 : ((s[k + 1].toNat : Int) == 34)
        · go_wp2_with (first | (at_builtin; refine Lib.wpList_append_own_string _ rfl (.tmp 116) (.tmp 120) 43 9 rfl w.heap.size 5 i0 Tryf.underlying43 Tryf.underlying9 hi0 hz0 hz1 hz2 _ acc.length _ rfl HLI.out.ow (s.extract j k) rfl (by unfold maxLen; omega) (by omega) (by omega) ?_; intro v4 w4 HO4 HG4 _))
          obtain ⟨p1, p2, p3, p4⟩ := HLI.out.piece hjk hlt HC.out HO4 HG4
          have e2 := H2.out
          have e3 := H3.out
          subst e2 e3
          exact HEX.out (acc ++ pc s j k) (k + 1) v4 _ _ _ _ _ _ _ _ _ _ _ _ _ _ _ _ _ _ _ _ _ _ _ _ _ _ _ _ _ _ _ _ _ _ _ _ _ _ _ _ _ _ _ _ _ _ w4 (by rw [HLI.out.eq, p4, quo_end _ _ H34.out (by rw [tl_cons hn]; simpa using byte_not (c := 34) c34)]; rfl) (by omega) (by omega) p1 p2 rfl rfl
        · have hll : (acc.length + (s.extract j k).size) ≤ 4194304 := by omega
          go_wp2_with (first | (at_builtin; refine Lib.wpList_append_own_string _ rfl (.tmp 116) (.tmp 120) 43 9 rfl w.heap.size 5 i0 Tryf.underlying43 Tryf.underlying9 hi0 hz0 hz1 hz2 _ acc.length _ rfl HLI.out.ow (s.extract j k) rfl (by unfold maxLen; omega) (by omega) (by omega) ?_; intro v4 w4 HO4 HG4 _; have HP := hid (HLI.out.piece hjk hlt HC.out HO4 HG4); have hb4 := HP.out.2.1.size) | (at_builtin; refine wpList_app0 rfl (.tmp 134) (.tmp 135) 43 rfl w.heap.size 5 i0 (.int .u8 0) 1 1 Tryf.underlying43 hi0 hz0 hz1 hz2 rfl (by decide) v4 (acc ++ pc s j k).length (Lib.byteCells (acc ++ pc s j k)) rfl (HP.out.1.alloc _) ⟨w4.heap.size, 0, none⟩ 1 1 [.int .u8 34] rfl rfl (cell_one_new _ _ _) (by intro u hu; simp at hu; subst hu; rfl) (by have := HP.out.2.2.1; unfold maxLen; omega) (by have := HP.out.2.2.1; omega) (by simp; omega) ?_; intro p5 c5 w5 HO5 hu5 hg5; generalize hn5 : (acc ++ pc s j k).length + 1 = n5 at *; have HN5 := hid hn5; clear hn5))
          have HL5 := hid (HLI.out.two HP.out H34.out hn (byte_is (c := 34) c34) _ hu5 HN5.out HO5)
          clear HO5 hu5 hg5 HP HO4 HG4
          go_roundg (gk - 1)
          case measure => omega
          case rel => exact ⟨H2.out, H3.out, k + 2, _, by simp; omega, by omega, HL5.out⟩
      · have hnI : ¬ ((k : Int) + 1 < s.size) := by omega
        go_wp2_with (first | (at_builtin; refine Lib.wpList_append_own_string _ rfl (.tmp 116) (.tmp 120) 43 9 rfl w.heap.size 5 i0 Tryf.underlying43 Tryf.underlying9 hi0 hz0 hz1 hz2 _ acc.length _ rfl HLI.out.ow (s.extract j k) rfl (by unfold maxLen; omega) (by omega) (by omega) ?_; intro v4 w4 HO4 HG4 _))
        obtain ⟨p1, p2, p3, p4⟩ := HLI.out.piece hjk hlt HC.out HO4 HG4
        have e2 := H2.out
        have e3 := H3.out
        subst e2 e3
        exact HEX.out (acc ++ pc s j k) (k + 1) v4 _ _ _ _ _ _ _ _ _ _ _ _ _ _ _ _ _ _ _ _ _ _ _ _ _ _ _ _ _ _ _ _ _ _ _ _ _ _ _ _ _ _ _ _ _ _ w4 (by rw [HLI.out.eq, p4, quo_end _ _ H34.out (by rw [tl_nil (by omega)]; simp)]; rfl) (by omega) (by omega) p1 p2 rfl rfl
end Go.Proofs.Qxb6613956aFmt.W
