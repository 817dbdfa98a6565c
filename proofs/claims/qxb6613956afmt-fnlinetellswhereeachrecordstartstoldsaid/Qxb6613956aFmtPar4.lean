/-
  zzParse: the loop over a record's fields.
-/
import Derived.Test.Qxb6613956aFmtPar5
namespace Go.Proofs.Qxb6613956aFmt.W
open Go.RowKit

section
variable {s : ByteArray} {i j k : Nat} {acc : List UInt8}
theorem head34 (h : i < s.size) (hc : s[i] = 34) : tl s i = 34 :: tl s (i + 1) := by rw [tl_cons h, hc]
theorem head_not (h : ¬ i < s.size ∨ ∃ h : i < s.size, s[i] ≠ 34) : (tl s i).head? ≠ some 34 := by
  rcases h with h | ⟨h, hc⟩
  · rw [tl_nil (by omega)]; simp
  · rw [tl_cons h]; simpa using hc
theorem fq_last (h : i < s.size) (hc : s[i] = 34) (hq : quo (tl s (i + 1)) = some (acc, tl s j)) (hz : trim (fl (tl s j)) = []) : fld (tl s i) = some (acc, false, tl s (lend s j)) := by
  rw [fld_q_last (head34 h hc) hq hz, tl_fl]
theorem fq_more (h : i < s.size) (hc : s[i] = 34) (hq : quo (tl s (i + 1)) = some (acc, tl s j)) (hz : trim (fl (tl s j)) ≠ []) (hj : j < s.size) (hd : s[j] = 44) : fld (tl s i) = some (acc, true, tl s (j + 1)) := by
  rw [fld_q_more (head34 h hc) hq hz (by rw [tl_cons hj, hd]; rfl), tl_tail]
theorem fq_bad (h : i < s.size) (hc : s[i] = 34) (hq : quo (tl s (i + 1)) = some (acc, tl s j)) (hz : trim (fl (tl s j)) ≠ []) (hj : j < s.size) (hd : s[j] ≠ 44) : fld (tl s i) = none :=
  fld_q_bad (head34 h hc) hq hz (by rw [tl_cons hj]; simpa using hd)
theorem brk_pos (hz : trim (fl (tl s j)) ≠ []) : j < s.size := by
  rcases Nat.lt_or_ge j s.size with h | h
  · exact h
  · rw [tl_nil h] at hz; exact absurd rfl hz
theorem fc_line (hi : i ≤ s.size) (hk : i ≤ k) (hke : k < lend s i) (hks : k < s.size) (hd : s[k] = 44) : fl (tl s i) = pc s i k ++ 44 :: pc s (k + 1) (lend s i) := by
  have h1 := lend_le hi
  rw [← pc_fl, pc_app (b := k + 1) (by omega) (by omega) h1.2, pc_succ hk hks, hd, List.append_assoc]; rfl
theorem fc_more (h0 : (tl s i).head? ≠ some 34) (hi : i ≤ s.size) (hk : i ≤ k) (hke : k < lend s i) (hks : k < s.size) (hd : s[k] = 44) (h44 : (44 : UInt8) ∉ pc s i k) (h34 : (34 : UInt8) ∉ pc s i k) : fld (tl s i) = some (pc s i k, true, tl s (k + 1)) := by
  rw [fld_c_more h0 (fc_line hi hk hke hks hd) h44 h34, tl_drop, pc_len (by omega), show i + (k - i + 1) = k + 1 by omega]
theorem fc_bad (h0 : (tl s i).head? ≠ some 34) (hi : i ≤ s.size) (hk : i ≤ k) (hke : k < lend s i) (hks : k < s.size) (hd : s[k] = 44) (h44 : (44 : UInt8) ∉ pc s i k) (h34 : (34 : UInt8) ∈ pc s i k) : fld (tl s i) = none :=
  fld_c_bad h0 (fc_line hi hk hke hks hd) h44 h34
theorem fl_last (h0 : (tl s i).head? ≠ some 34) (hi : i ≤ s.size) (h44 : (44 : UInt8) ∉ pc s i (lend s i)) {b : Nat} (hb : cb s 13 i (cb s 10 i (lend s i)) = b) (h34 : (34 : UInt8) ∉ pc s i b) : fld (tl s i) = some (pc s i b, false, tl s (lend s i)) := by
  have h1 := lend_le hi
  have e : trim (fl (tl s i)) = pc s i b := by rw [← pc_fl, trim_pc h1.1 h1.2, hb]
  rw [fld_l_last h0 (by rw [← pc_fl]; exact h44) (by rw [e]; exact h34), e, tl_fl]
theorem fl_bad (h0 : (tl s i).head? ≠ some 34) (hi : i ≤ s.size) (h44 : (44 : UInt8) ∉ pc s i (lend s i)) {b : Nat} (hb : cb s 13 i (cb s 10 i (lend s i)) = b) (h34 : (34 : UInt8) ∈ pc s i b) : fld (tl s i) = none := by
  have h1 := lend_le hi
  have e : trim (fl (tl s i)) = pc s i b := by rw [← pc_fl, trim_pc h1.1 h1.2, hb]
  exact fld_l_bad h0 (by rw [← pc_fl]; exact h44) (by rw [e]; exact h34)
end

/-- what the loop over the fields keeps while another field is to come -/
structure MI (w wr : World) (s : ByteArray) (i0 i : Nat) (acc : List (List UInt8)) (rv : Value) : Prop where
  ow : wr.ownsRow w.heap.size 9 1 rv acc.length (acc.map strV)
  up : Upd [] w wr
  eq : rc (tl s i0) = aheadF acc (rc (tl s i))
  hi : i ≤ s.size
  ct : acc.length ≤ i
/-- and behind the last field -/
structure ME (w wr : World) (s : ByteArray) (i0 i : Nat) (acc : List (List UInt8)) (rv : Value) : Prop where
  ow : wr.ownsRow w.heap.size 9 1 rv acc.length (acc.map strV)
  up : Upd [] w wr
  eq : rc (tl s i0) = some (acc, tl s i)
  hi : i ≤ s.size
  ct : acc.length ≤ s.size + 1
  ne : 0 < acc.length

section
variable {w wr w1 w5 : World} {s : ByteArray} {i0 i i' : Nat} {acc : List (List UInt8)} {t : List UInt8} {rv v5 : Value} {x : ByteArray}
theorem MI.bad (h : MI w wr s i0 i acc rv) (hf : fld (tl s i) = none) : rc (tl s i0) = none := by rw [h.eq, rc_bad hf]; rfl
theorem MI.keep (h : MI w wr s i0 i acc rv) (hu : Upd [] wr w1) : w1.ownsRow w.heap.size 9 1 rv acc.length (acc.map strV) := owns_upd h.ow fun k hk => hu.block k (owns_lt h.ow k hk).1 (by simp)
theorem MI.row (h : MI w wr s i0 i acc rv) (hu1 : Upd [] wr w1) (o : Obj) (hu : Upd (vb rv) (w1.alloc o) w5) (hx : x = ⟨t.toArray⟩) (ho : w5.ownsRow w.heap.size 9 1 v5 (acc.length + 1) (acc.map strV ++ [.string x])) :
    w5.ownsRow w.heap.size 9 1 v5 (acc ++ [t]).length ((acc ++ [t]).map strV) ∧ Upd [] w w5 := by
  subst hx
  refine ⟨?_, upd_widen ((h.up.trans hu1).alloc o) hu (fun k hk => .inr (owns_lt h.ow k hk).2)⟩
  rw [List.length_append, List.map_append]; exact ho
theorem MI.more (h : MI w wr s i0 i acc rv) (hf : fld (tl s i) = some (t, true, tl s i')) (hi' : i' ≤ s.size) (hr : w5.ownsRow w.heap.size 9 1 v5 (acc ++ [t]).length ((acc ++ [t]).map strV) ∧ Upd [] w w5) : MI w w5 s i0 i' (acc ++ [t]) v5 ∧ i < i' := by
  have hl := (fld_len hf).2.1 rfl
  rw [tl_len, tl_len] at hl
  have := h.ct
  have := h.hi
  exact ⟨{ ow := hr.1, up := hr.2, eq := by rw [h.eq, rc_step acc hf], hi := hi', ct := by simp; omega }, by omega⟩
theorem MI.last (h : MI w wr s i0 i acc rv) (hf : fld (tl s i) = some (t, false, tl s i')) (hi' : i' ≤ s.size) (hr : w5.ownsRow w.heap.size 9 1 v5 (acc ++ [t]).length ((acc ++ [t]).map strV) ∧ Upd [] w w5) : ME w w5 s i0 i' (acc ++ [t]) v5 := by
  have := h.ct
  have := h.hi
  exact { ow := hr.1, up := hr.2, eq := by rw [h.eq, rc_last hf]; rfl, hi := hi', ct := by simp; omega, ne := by simp }
end

set_option maxRecDepth 100000 in
set_option maxHeartbeats 4000000 in
theorem loop4 (s : ByteArray) (i0 : Nat) (hs : s.size ≤ 1048600) (hi0 : i0 ≤ s.size) (u1 u2 u3 u4 u6 u7 u8 u11 u12 u13 u14 u15 u16 u17 u18 u19 u20 u21 u22 u23 u24 u25 u26 u27 u28 u29 u30 u31 u32 u33 u34 u35 u36 u37 u38 u39 u40 u41 u42 u43 u44 u45 u46 u47 u48 u49 u50 u51 u52 u53 u54 u55 u56 u57 u58 u59 u60 u61 u62 u63 u64 u65 u66 u67 u68 u69 u70 u71 u72 u73 u74 u75 u76 u77 u78 u79 u80 u81 u82 u83 u84 u85 u86 u87 u88 u89 u90 u91 u92 u93 u94 u95 u96 u97 u98 u99 u100 u101 u102 u103 u104 u105 u106 u107 u108 u109 u110 u111 u112 u113 u114 u115 u116 u117 u118 u119 u120 u121 u122 u123 u124 u125 u126 u127 u128 u129 u130 u131 u132 u133 u134 u135 u136 u137 u138 u139 u140 u141 u142 u143 u144 u145 u146 u147 u148 u149 u150 u151 u152 u153 u154 u155 u156 u157 u158 u159 u160 u161 u162 u163 u164 u165 u166 u167 u168 u169 u170 u171 u172 u173 u174 u175 u176 u177 u178 u179 u180 u181 u182 u183 u184 u185 u186 u187 u188 u189 u190 u191 u192 u193 u194 u195 u196 u197 u198 u199 u200 u201 u202 u203 u204 u205 u206 u207 u208 u209 u210 u211 u212 u213 u214 u215 u216 u217 u218 u219 u220 u221 u222 u223 u224 u225 u226 u227 u228 u229 u230 u231 u232 u233 u234 u235 u236 u237 u238 u239 u240 u241 : Value) (Q0 : Exit → Act → World → Prop) (w : World)
    (hexit : ∀ (acc : List (List UInt8)) (i : Nat) (rv : Value) (x2 x3 x4 x10 x11 x12 x13 x14 x15 x16 x17 x18 x81 x82 x83 x84 x85 x86 x87 x88 x89 x90 x91 x92 x93 x94 x95 x96 x97 x98 x99 x100 x101 x102 x103 x104 x105 x106 x107 x108 x109 x110 x111 x112 x113 x114 x115 x116 x117 x118 x119 x120 x121 x122 x123 x124 x125 x126 x127 x128 x129 x130 x131 x132 x133 x134 x135 x136 x137 x138 x139 x140 x141 x142 x143 x144 x145 x146 x147 x148 x149 x150 x151 x152 x153 x154 x155 x156 x157 x158 x159 x160 x161 x162 x163 x164 x165 x166 x167 x168 x169 x170 x171 x172 x173 x174 x175 x176 x177 x178 x179 x180 x181 x182 x183 x184 x185 x186 x187 x188 x189 x190 x191 x192 x193 x194 x195 x196 x197 x198 x199 x200 x201 x202 x203 x204 x205 x206 x207 x208 x209 x210 x211 x212 x213 x214 x215 x216 x217 x218 x219 x220 x221 x222 : Value) (w' : World), ME w w' s i0 i acc rv → x2 = u2 → x3 = u3 → Q0 (.exit 6) ⟨(.string s :: u1 :: x2 :: x3 :: x4 :: .int .i64 i :: u6 :: u7 :: u8 :: rv :: x10 :: x11 :: x12 :: x13 :: x14 :: x15 :: x16 :: x17 :: x18 :: u19 :: u20 :: u21 :: u22 :: u23 :: u24 :: u25 :: u26 :: u27 :: u28 :: u29 :: u30 :: u31 :: u32 :: u33 :: u34 :: u35 :: u36 :: u37 :: u38 :: u39 :: u40 :: u41 :: u42 :: u43 :: u44 :: u45 :: u46 :: u47 :: u48 :: u49 :: u50 :: u51 :: u52 :: u53 :: u54 :: u55 :: u56 :: u57 :: u58 :: u59 :: u60 :: u61 :: u62 :: u63 :: u64 :: u65 :: u66 :: u67 :: u68 :: u69 :: u70 :: u71 :: u72 :: u73 :: u74 :: u75 :: u76 :: u77 :: u78 :: u79 :: u80 :: x81 :: x82 :: x83 :: x84 :: x85 :: x86 :: x87 :: x88 :: x89 :: x90 :: x91 :: x92 :: x93 :: x94 :: x95 :: x96 :: x97 :: x98 :: x99 :: x100 :: x101 :: x102 :: x103 :: x104 :: x105 :: x106 :: x107 :: x108 :: x109 :: x110 :: x111 :: x112 :: x113 :: x114 :: x115 :: x116 :: x117 :: x118 :: x119 :: x120 :: x121 :: x122 :: x123 :: x124 :: x125 :: x126 :: x127 :: x128 :: x129 :: x130 :: x131 :: x132 :: x133 :: x134 :: x135 :: x136 :: x137 :: x138 :: x139 :: x140 :: x141 :: x142 :: x143 :: x144 :: x145 :: x146 :: x147 :: x148 :: x149 :: x150 :: x151 :: x152 :: x153 :: x154 :: x155 :: x156 :: x157 :: x158 :: x159 :: x160 :: x161 :: x162 :: x163 :: x164 :: x165 :: x166 :: x167 :: x168 :: x169 :: x170 :: x171 :: x172 :: x173 :: x174 :: x175 :: x176 :: x177 :: x178 :: x179 :: x180 :: x181 :: x182 :: x183 :: x184 :: x185 :: x186 :: x187 :: x188 :: x189 :: x190 :: x191 :: x192 :: x193 :: x194 :: x195 :: x196 :: x197 :: x198 :: x199 :: x200 :: x201 :: x202 :: x203 :: x204 :: x205 :: x206 :: x207 :: x208 :: x209 :: x210 :: x211 :: x212 :: x213 :: x214 :: x215 :: x216 :: x217 :: x218 :: x219 :: x220 :: x221 :: x222 :: u223 :: u224 :: u225 :: u226 :: u227 :: u228 :: u229 :: u230 :: u231 :: u232 :: u233 :: u234 :: u235 :: u236 :: u237 :: u238 :: u239 :: u240 :: u241 :: []).toArray, []⟩ w')
    (hret : ∀ (x5 x9 x10 x11 x12 x13 x14 x15 x16 x17 x18 x81 x82 x83 x84 x85 x86 x87 x88 x89 x90 x91 x92 x93 x94 x95 x96 x97 x98 x99 x100 x101 x102 x103 x104 x105 x106 x107 x108 x109 x110 x111 x112 x113 x114 x115 x116 x117 x118 x119 x120 x121 x122 x123 x124 x125 x126 x127 x128 x129 x130 x131 x132 x133 x134 x135 x136 x137 x138 x139 x140 x141 x142 x143 x144 x145 x146 x147 x148 x149 x150 x151 x152 x153 x154 x155 x156 x157 x158 x159 x160 x161 x162 x163 x164 x165 x166 x167 x168 x169 x170 x171 x172 x173 x174 x175 x176 x177 x178 x179 x180 x181 x182 x183 x184 x185 x186 x187 x188 x189 x190 x191 x192 x193 x194 x195 x196 x197 x198 x199 x200 x201 x202 x203 x204 x205 x206 x207 x208 x209 x210 x211 x212 x213 x214 x215 x216 x217 x218 x219 x220 x221 x222 : Value) (w' : World), rc (tl s i0) = none → Upd [] w w' → Q0 .ret ⟨(.string s :: u1 :: u2 :: u3 :: .bool false :: x5 :: u6 :: u7 :: u8 :: x9 :: x10 :: x11 :: x12 :: x13 :: x14 :: x15 :: x16 :: x17 :: x18 :: u19 :: u20 :: u21 :: u22 :: u23 :: u24 :: u25 :: u26 :: u27 :: u28 :: u29 :: u30 :: u31 :: u32 :: u33 :: u34 :: u35 :: u36 :: u37 :: u38 :: u39 :: u40 :: u41 :: u42 :: u43 :: u44 :: u45 :: u46 :: u47 :: u48 :: u49 :: u50 :: u51 :: u52 :: u53 :: u54 :: u55 :: u56 :: u57 :: u58 :: u59 :: u60 :: u61 :: u62 :: u63 :: u64 :: u65 :: u66 :: u67 :: u68 :: u69 :: u70 :: u71 :: u72 :: u73 :: u74 :: u75 :: u76 :: u77 :: u78 :: u79 :: u80 :: x81 :: x82 :: x83 :: x84 :: x85 :: x86 :: x87 :: x88 :: x89 :: x90 :: x91 :: x92 :: x93 :: x94 :: x95 :: x96 :: x97 :: x98 :: x99 :: x100 :: x101 :: x102 :: x103 :: x104 :: x105 :: x106 :: x107 :: x108 :: x109 :: x110 :: x111 :: x112 :: x113 :: x114 :: x115 :: x116 :: x117 :: x118 :: x119 :: x120 :: x121 :: x122 :: x123 :: x124 :: x125 :: x126 :: x127 :: x128 :: x129 :: x130 :: x131 :: x132 :: x133 :: x134 :: x135 :: x136 :: x137 :: x138 :: x139 :: x140 :: x141 :: x142 :: x143 :: x144 :: x145 :: x146 :: x147 :: x148 :: x149 :: x150 :: x151 :: x152 :: x153 :: x154 :: x155 :: x156 :: x157 :: x158 :: x159 :: x160 :: x161 :: x162 :: x163 :: x164 :: x165 :: x166 :: x167 :: x168 :: x169 :: x170 :: x171 :: x172 :: x173 :: x174 :: x175 :: x176 :: x177 :: x178 :: x179 :: x180 :: x181 :: x182 :: x183 :: x184 :: x185 :: x186 :: x187 :: x188 :: x189 :: x190 :: x191 :: x192 :: x193 :: x194 :: x195 :: x196 :: x197 :: x198 :: x199 :: x200 :: x201 :: x202 :: x203 :: x204 :: x205 :: x206 :: x207 :: x208 :: x209 :: x210 :: x211 :: x212 :: x213 :: x214 :: x215 :: x216 :: x217 :: x218 :: x219 :: x220 :: x221 :: x222 :: u223 :: u224 :: u225 :: u226 :: u227 :: u228 :: u229 :: u230 :: u231 :: u232 :: u233 :: u234 :: u235 :: u236 :: u237 :: u238 :: u239 :: u240 :: u241 :: []).toArray, []⟩ w') :
    Code.wp Tryf.prog (Code.loop ((loopsIn ((loopsIn (Tryf.f19.body.getD .skip)).getD 0 .skip)).getD 2 .skip)) Q0 ⟨(.string s :: u1 :: u2 :: u3 :: u4 :: .int .i64 i0 :: u6 :: u7 :: u8 :: .slice none 0 0 :: .bool true :: u11 :: u12 :: u13 :: u14 :: u15 :: u16 :: u17 :: u18 :: u19 :: u20 :: u21 :: u22 :: u23 :: u24 :: u25 :: u26 :: u27 :: u28 :: u29 :: u30 :: u31 :: u32 :: u33 :: u34 :: u35 :: u36 :: u37 :: u38 :: u39 :: u40 :: u41 :: u42 :: u43 :: u44 :: u45 :: u46 :: u47 :: u48 :: u49 :: u50 :: u51 :: u52 :: u53 :: u54 :: u55 :: u56 :: u57 :: u58 :: u59 :: u60 :: u61 :: u62 :: u63 :: u64 :: u65 :: u66 :: u67 :: u68 :: u69 :: u70 :: u71 :: u72 :: u73 :: u74 :: u75 :: u76 :: u77 :: u78 :: u79 :: u80 :: u81 :: u82 :: u83 :: u84 :: u85 :: u86 :: u87 :: u88 :: u89 :: u90 :: u91 :: u92 :: u93 :: u94 :: u95 :: u96 :: u97 :: u98 :: u99 :: u100 :: u101 :: u102 :: u103 :: u104 :: u105 :: u106 :: u107 :: u108 :: u109 :: u110 :: u111 :: u112 :: u113 :: u114 :: u115 :: u116 :: u117 :: u118 :: u119 :: u120 :: u121 :: u122 :: u123 :: u124 :: u125 :: u126 :: u127 :: u128 :: u129 :: u130 :: u131 :: u132 :: u133 :: u134 :: u135 :: u136 :: u137 :: u138 :: u139 :: u140 :: u141 :: u142 :: u143 :: u144 :: u145 :: u146 :: u147 :: u148 :: u149 :: u150 :: u151 :: u152 :: u153 :: u154 :: u155 :: u156 :: u157 :: u158 :: u159 :: u160 :: u161 :: u162 :: u163 :: u164 :: u165 :: u166 :: u167 :: u168 :: u169 :: u170 :: u171 :: u172 :: u173 :: u174 :: u175 :: u176 :: u177 :: u178 :: u179 :: u180 :: u181 :: u182 :: u183 :: u184 :: u185 :: u186 :: u187 :: u188 :: u189 :: u190 :: u191 :: u192 :: u193 :: u194 :: u195 :: u196 :: u197 :: u198 :: u199 :: u200 :: u201 :: u202 :: u203 :: u204 :: u205 :: u206 :: u207 :: u208 :: u209 :: u210 :: u211 :: u212 :: u213 :: u214 :: u215 :: u216 :: u217 :: u218 :: u219 :: u220 :: u221 :: u222 :: u223 :: u224 :: u225 :: u226 :: u227 :: u228 :: u229 :: u230 :: u231 :: u232 :: u233 :: u234 :: u235 :: u236 :: u237 :: u238 :: u239 :: u240 :: u241 :: []).toArray, []⟩ w := by
  obtain ⟨i9, hi9, hz90, hz91, hz92⟩ := info_parts info9b
  conv => arg 2; arg 1; whnf
  go_loopg [2, 3, 5, 9, 10] (s.size + 2) (fun k t2 t3 t5 t9 t10 wr => t2 = u2 ∧ t3 = u3 ∧ ((t10 = .bool true ∧ ∃ (i : Nat) (acc : List (List UInt8)), t5 = .int .i64 i ∧ s.size - i + 1 < k ∧ MI w wr s i0 i acc t9) ∨ (t10 = .bool false ∧ ∃ (i : Nat) (acc : List (List UInt8)), t5 = .int .i64 i ∧ ME w wr s i0 i acc t9)))
  case atStart => exact ⟨rfl, rfl, .inl ⟨rfl, i0, [], rfl, by omega, { ow := World.ownsRow_nil _ _ _ _, up := Upd.refl _ _, eq := (aheadF_nil _).symm, hi := hi0, ct := by simp }⟩⟩
  case round =>
    obtain ⟨h2, h3, hor⟩ := hrel
    have H2 := hid h2
    have H3 := hid h3
    clear h2 h3
    have HEX := hid hexit
    clear hexit
    have HRT := hid hret
    clear hret
    rcases hor with ⟨rfl, i, acc, rfl, hk, hmi⟩ | ⟨rfl, i, acc, rfl, hme⟩
    · have hi := hmi.hi
      have hct := hmi.ct
      have hup := hmi.up.size
      have hel := lend_le hi
      have HMI := hid hmi
      clear hmi
      have ql := lineEnd_any s i wr hs hi
      by_cases hqd : ∃ h : i < s.size, s[i] = 34
      · obtain ⟨hlt, hc⟩ := hqd
        have hltI : (i : Int) < s.size := by omega
        have c34 : ((s[i].toNat : Int) == 34) = true := by rw [hc]; rfl
        have HC := hid hc
        clear hc
        go_wp2_with fail
        go_fit ql
        rintro e wq ⟨rfl, hwq⟩
        clear ql
        subst hwq
        go_wp2_with fail
        refine loop5 s (i + 1) hs (by omega) _ _ _ _ _ _ _ _ _ _ _ _ _ _ _ _ _ _ _ _ _ _ _ _ _ _ _ _ _ _ _ _ _ _ _ _ _ _ _ _ _ _ _ _ _ _ _ _ _ _ _ _ _ _ _ _ _ _ _ _ _ _ _ _ _ _ _ _ _ _ _ _ _ _ _ _ _ _ _ _ _ _ _ _ _ _ _ _ _ _ _ _ _ _ _ _ _ _ _ _ _ _ _ _ _ _ _ _ _ _ _ _ _ _ _ _ _ _ _ _ _ _ _ _ _ _ _ _ _ _ _ _ _ _ _ _ _ _ _ _ _ _ _ _ _ _ _ _ _ _ _ _ _ _ _ _ _ _ _ _ _ _ _ _ _ _ _ _ _ _ _ _ _ _ _ _ _ _ _ _ _ _ _ _ _ _ _ _ _ _ _ _ _ _ _ _ _ _ _ _ _ _ _ _ _ _ _ _ _ _ _ _ _ _ _ _ _ _ _ _ _ _ _ _ _ _ _ _ _ _ _ _ _ _ _ _ _ _ _ _ wq ?_ ?_
        · intro a2 j tv y2 y3 y4 y14 y97 y98 y99 y100 y101 y102 y103 y104 y105 y106 y107 y108 y109 y110 y111 y112 y113 y114 y115 y116 y117 y118 y119 y120 y121 y122 y123 y124 y125 y126 y127 y128 y129 y130 y131 y132 y133 y134 y135 y136 y137 y138 w1 hq hj haj ho1 hu1 e2' e3'
          subst e2' e3'
          have HQ := hid hq
          clear hq
          have ql2 := lineEnd_any s j w1 hs hj
          have hel2 := lend_le hj
          have qb := brk_any s j (lend s j) w1 hs hel2.1 hel2.2
          rw [pc_fl] at qb
          have hcv := conv_own ho1
          have HKE := hid (HMI.out.keep hu1)
          have hz1 := hu1.size
          by_cases hz : trim (fl (tl s j)) = []
          · have hdz : decide (trim (fl (tl s j)) = []) = true := decide_eq_true hz
            rw [hdz] at qb
            have HF := hid (fq_last hlt HC.out HQ.out hz)
            clear hdz hz
            go_wp2_with fail
            go_fit ql2
            rintro e wa ⟨rfl, hwa⟩
            clear ql2
            subst hwa
            go_wp2_with fail
            go_fit qb
            rintro e wb ⟨rfl, hwb⟩
            clear qb
            subst hwb
            go_wp2_with (first | (at_builtin; refine wpList_app0 rfl (.tmp 155) (.tmp 158) 24 rfl w.heap.size 9 i9 (.string ⟨#[]⟩) 1 16 Tryf.underlying24 hi9 hz90 hz91 hz92 rfl (by decide) u9 acc.length (acc.map strV) rfl (HKE.out.alloc _) ⟨wb.heap.size, 0, none⟩ 1 1 [.string ⟨a2.toArray⟩] rfl rfl (cell_one_new _ _ _) (by intro u hu; simp at hu; subst hu; rfl) (by unfold maxLen; omega) (by omega) (by simp; omega) ?_; intro p5 c5 w5 HO5 hu5 hg5))
            have HN := hid (HMI.out.last HF.out hel2.2 (HMI.out.row hu1 _ hu5 rfl HO5))
            clear HO5 hu5 hg5
            go_roundg (gk - 1)
            case measure => omega
            case rel => exact ⟨H2.out, H3.out, .inr ⟨rfl, _, _, rfl, HN.out⟩⟩
          · have hdz : decide (trim (fl (tl s j)) = []) = false := decide_eq_false hz
            rw [hdz] at qb
            have hjl := brk_pos hz
            have hjI : (j : Int) < s.size := by omega
            have HZ := hid hz
            clear hdz hz
            cases c44 : ((s[j].toNat : Int) == 44)
            · have HF := hid (fq_bad hlt HC.out HQ.out HZ.out hjl (byte_not (c := 44) c44))
              go_wp2_with fail
              go_fit ql2
              rintro e wa ⟨rfl, hwa⟩
              clear ql2
              subst hwa
              go_wp2_with fail
              go_fit qb
              rintro e wb ⟨rfl, hwb⟩
              clear qb
              subst hwb
              go_wp2_with fail
              have e2 := H2.out
              have e3 := H3.out
              subst e2 e3
              exact HRT.out _ _ _ _ _ _ _ _ _ _ _ _ _ _ _ _ _ _ _ _ _ _ _ _ _ _ _ _ _ _ _ _ _ _ _ _ _ _ _ _ _ _ _ _ _ _ _ _ _ _ _ _ _ _ _ _ _ _ _ _ _ _ _ _ _ _ _ _ _ _ _ _ _ _ _ _ _ _ _ _ _ _ _ _ _ _ _ _ _ _ _ _ _ _ _ _ _ _ _ _ _ _ _ _ _ _ _ _ _ _ _ _ _ _ _ _ _ _ _ _ _ _ _ _ _ _ _ _ _ _ _ _ _ _ _ _ _ _ _ _ _ _ _ _ _ _ _ _ _ _ _ _ _ _ (HMI.out.bad HF.out) (HMI.out.up.trans hu1)
            · have HF := hid (fq_more hlt HC.out HQ.out HZ.out hjl (byte_is (c := 44) c44))
              go_wp2_with fail
              go_fit ql2
              rintro e wa ⟨rfl, hwa⟩
              clear ql2
              subst hwa
              go_wp2_with fail
              go_fit qb
              rintro e wb ⟨rfl, hwb⟩
              clear qb
              subst hwb
              go_wp2_with (first | (at_builtin; refine wpList_app0 rfl (.tmp 155) (.tmp 158) 24 rfl w.heap.size 9 i9 (.string ⟨#[]⟩) 1 16 Tryf.underlying24 hi9 hz90 hz91 hz92 rfl (by decide) u9 acc.length (acc.map strV) rfl (HKE.out.alloc _) ⟨wb.heap.size, 0, none⟩ 1 1 [.string ⟨a2.toArray⟩] rfl rfl (cell_one_new _ _ _) (by intro u hu; simp at hu; subst hu; rfl) (by unfold maxLen; omega) (by omega) (by simp; omega) ?_; intro p5 c5 w5 HO5 hu5 hg5))
              have HN := hid (HMI.out.more HF.out (by omega) (HMI.out.row hu1 _ hu5 rfl HO5))
              have hlt2 := HN.out.2
              clear HO5 hu5 hg5
              go_roundg (gk - 1)
              case measure => omega
              case rel => exact ⟨H2.out, H3.out, .inl ⟨rfl, j + 1, _, by simp, by omega, HN.out.1⟩⟩
        · intro y12 y13 y14 y97 y98 y99 y100 y101 y102 y103 y104 y105 y106 y107 y108 y109 y110 y111 y112 y113 y114 y115 y116 y117 y118 y119 y120 y121 y122 y123 y124 y125 y126 y127 y128 y129 y130 y131 y132 y133 y134 y135 y136 y137 y138 w1 hq hu1
          have HF := hid (fld_q (head34 hlt HC.out) hq)
          clear hq
          go_wp2_with fail
          have e2 := H2.out
          have e3 := H3.out
          subst e2 e3
          exact HRT.out _ _ _ _ _ _ _ _ _ _ _ _ _ _ _ _ _ _ _ _ _ _ _ _ _ _ _ _ _ _ _ _ _ _ _ _ _ _ _ _ _ _ _ _ _ _ _ _ _ _ _ _ _ _ _ _ _ _ _ _ _ _ _ _ _ _ _ _ _ _ _ _ _ _ _ _ _ _ _ _ _ _ _ _ _ _ _ _ _ _ _ _ _ _ _ _ _ _ _ _ _ _ _ _ _ _ _ _ _ _ _ _ _ _ _ _ _ _ _ _ _ _ _ _ _ _ _ _ _ _ _ _ _ _ _ _ _ _ _ _ _ _ _ _ _ _ _ _ _ _ _ _ _ _ (HMI.out.bad HF.out) (HMI.out.up.trans hu1)
      · have H0 := hid (head_not (show ¬ i < s.size ∨ ∃ h : i < s.size, s[i] ≠ 34 by
          by_cases hlt : i < s.size
          · exact .inr ⟨hlt, fun hc => hqd ⟨hlt, hc⟩⟩
          · exact .inl hlt))
        obtain ⟨en, hen⟩ : ∃ en, en = lend s i := ⟨_, rfl⟩
        rw [← hen] at hel ql
        have HEN := hid hen
        clear hen
        have hel1 := hel.1
        have hel2 := hel.2
        clear hel
        by_cases hlt : i < s.size
        · have hltI : (i : Int) < s.size := by omega
          have c34 : ((s[i].toNat : Int) == 34) = false := by
            rw [beq_eq_false_iff_ne]
            exact byte_ne (d := 34) (fun hc => hqd ⟨hlt, hc⟩)
          clear hqd
          go_wp2_with fail
          go_fit ql
          rintro e wq ⟨rfl, hwq⟩
          clear ql
          subst hwq
          go_wp2_with fail
          refine loop7 s i en hs hel1 hel2 _ _ _ _ _ _ _ _ _ _ _ _ _ _ _ _ _ _ _ _ _ _ _ _ _ _ _ _ _ _ _ _ _ _ _ _ _ _ _ _ _ _ _ _ _ _ _ _ _ _ _ _ _ _ _ _ _ _ _ _ _ _ _ _ _ _ _ _ _ _ _ _ _ _ _ _ _ _ _ _ _ _ _ _ _ _ _ _ _ _ _ _ _ _ _ _ _ _ _ _ _ _ _ _ _ _ _ _ _ _ _ _ _ _ _ _ _ _ _ _ _ _ _ _ _ _ _ _ _ _ _ _ _ _ _ _ _ _ _ _ _ _ _ _ _ _ _ _ _ _ _ _ _ _ _ _ _ _ _ _ _ _ _ _ _ _ _ _ _ _ _ _ _ _ _ _ _ _ _ _ _ _ _ _ _ _ _ _ _ _ _ _ _ _ _ _ _ _ _ _ _ _ _ _ _ _ _ _ _ _ _ _ _ _ _ _ _ _ _ _ _ _ _ _ _ _ _ _ _ _ _ _ _ _ _ _ _ _ _ _ wq ?_
          intro k y161 y162 y163 y164 y165 y166 y167 y168 y169 y170 y171 hik hke h44 hor
          have H44 := hid h44
          clear h44
          rcases hor with hke2 | ⟨hkl, hks, hc44⟩
          · have hkI : ¬ ((k : Int) < en) := by omega
            obtain rfl : k = en := hke2
            have H44e := hid (show (44 : UInt8) ∉ pc s i (lend s i) by rw [← HEN.out]; exact H44.out)
            by_cases hie : i < k
            · have hieI : (i : Int) < k := by omega
              obtain ⟨m, rfl⟩ : ∃ m, k = m + 1 := ⟨k - 1, by omega⟩
              have hms : m < s.size := by omega
              have hmI : (m : Int) < s.size := by omega
              cases c10 : ((s[m].toNat : Int) == 10)
              · have n10 : cb s 10 i (m + 1) = m + 1 := cb_miss hie hel2 (byte_not (c := 10) c10)
                cases c13 : ((s[m].toNat : Int) == 13)
                · have NB := hid (show cb s 13 i (cb s 10 i (lend s i)) = m + 1 by rw [← HEN.out, n10]; exact cb_miss hie hel2 (byte_not (c := 13) c13))
                  clear n10
                  have bI1 : (i : Int) ≤ (m : Int) + 1 := by omega
                  have bI2 : ((m : Int) + 1 : Int) ≤ s.size := by omega
                  go_wp2_with fail
                  refine loop8 s i (m + 1) hs (by omega) (by omega) _ _ _ _ _ _ _ _ _ _ _ _ _ _ _ _ _ _ _ _ _ _ _ _ _ _ _ _ _ _ _ _ _ _ _ _ _ _ _ _ _ _ _ _ _ _ _ _ _ _ _ _ _ _ _ _ _ _ _ _ _ _ _ _ _ _ _ _ _ _ _ _ _ _ _ _ _ _ _ _ _ _ _ _ _ _ _ _ _ _ _ _ _ _ _ _ _ _ _ _ _ _ _ _ _ _ _ _ _ _ _ _ _ _ _ _ _ _ _ _ _ _ _ _ _ _ _ _ _ _ _ _ _ _ _ _ _ _ _ _ _ _ _ _ _ _ _ _ _ _ _ _ _ _ _ _ _ _ _ _ _ _ _ _ _ _ _ _ _ _ _ _ _ _ _ _ _ _ _ _ _ _ _ _ _ _ _ _ _ _ _ _ _ _ _ _ _ _ _ _ _ _ _ _ _ _ _ _ _ _ _ _ _ _ _ _ _ _ _ _ _ _ _ _ _ _ _ _ _ _ _ _ _ _ _ _ _ _ _ _ wq ?_ ?_
                  · intro n8 z2 z3 z4 z205 z206 z207 z208 z209 z210 z211 z212 z213 z214 z215 h34 e2' e3'
                    subst e2' e3'
                    have HF := hid (HEN.out.symm ▸ fl_last H0.out hi H44e.out NB.out h34)
                    clear h34
                    go_wp2_with (first | (at_builtin; refine wpList_app0 rfl (.tmp 216) (.tmp 221) 24 rfl w.heap.size 9 i9 (.string ⟨#[]⟩) 1 16 Tryf.underlying24 hi9 hz90 hz91 hz92 rfl (by decide) u9 acc.length (acc.map strV) rfl (HMI.out.ow.alloc _) ⟨wq.heap.size, 0, none⟩ 1 1 [.string (s.extract i (m + 1))] rfl rfl (cell_one_new _ _ _) (by intro u hu; simp at hu; subst hu; rfl) (by unfold maxLen; omega) (by omega) (by simp; omega) ?_; intro p5 c5 w5 HO5 hu5 hg5))
                    have HN := hid (HMI.out.last HF.out (by omega) (HMI.out.row (Upd.refl _ _) _ hu5 (ext_pc s i (m + 1)) HO5))
                    clear HO5 hu5 hg5
                    go_roundg (gk - 1)
                    case measure => omega
                    case rel => exact ⟨H2.out, H3.out, .inr ⟨rfl, m + 1, _, by simp, HN.out⟩⟩
                  · intro z18 z205 z206 z207 z208 z209 z210 z211 z212 z213 z214 z215 h34
                    have HF := hid (fl_bad H0.out hi H44e.out NB.out h34)
                    clear h34
                    go_wp2_with fail
                    have e2 := H2.out
                    have e3 := H3.out
                    subst e2 e3
                    exact HRT.out _ _ _ _ _ _ _ _ _ _ _ _ _ _ _ _ _ _ _ _ _ _ _ _ _ _ _ _ _ _ _ _ _ _ _ _ _ _ _ _ _ _ _ _ _ _ _ _ _ _ _ _ _ _ _ _ _ _ _ _ _ _ _ _ _ _ _ _ _ _ _ _ _ _ _ _ _ _ _ _ _ _ _ _ _ _ _ _ _ _ _ _ _ _ _ _ _ _ _ _ _ _ _ _ _ _ _ _ _ _ _ _ _ _ _ _ _ _ _ _ _ _ _ _ _ _ _ _ _ _ _ _ _ _ _ _ _ _ _ _ _ _ _ _ _ _ _ _ _ _ _ _ _ _ (HMI.out.bad HF.out) HMI.out.up
                · have NB := hid (show cb s 13 i (cb s 10 i (lend s i)) = m by rw [← HEN.out, n10]; exact cb_hit hie hel2 (byte_is (c := 13) c13))
                  clear n10
                  have bI1 : (i : Int) ≤ (m : Int) := by omega
                  have bI2 : ((m : Int) : Int) ≤ s.size := by omega
                  go_wp2_with fail
                  refine loop8 s i (m) hs (by omega) (by omega) _ _ _ _ _ _ _ _ _ _ _ _ _ _ _ _ _ _ _ _ _ _ _ _ _ _ _ _ _ _ _ _ _ _ _ _ _ _ _ _ _ _ _ _ _ _ _ _ _ _ _ _ _ _ _ _ _ _ _ _ _ _ _ _ _ _ _ _ _ _ _ _ _ _ _ _ _ _ _ _ _ _ _ _ _ _ _ _ _ _ _ _ _ _ _ _ _ _ _ _ _ _ _ _ _ _ _ _ _ _ _ _ _ _ _ _ _ _ _ _ _ _ _ _ _ _ _ _ _ _ _ _ _ _ _ _ _ _ _ _ _ _ _ _ _ _ _ _ _ _ _ _ _ _ _ _ _ _ _ _ _ _ _ _ _ _ _ _ _ _ _ _ _ _ _ _ _ _ _ _ _ _ _ _ _ _ _ _ _ _ _ _ _ _ _ _ _ _ _ _ _ _ _ _ _ _ _ _ _ _ _ _ _ _ _ _ _ _ _ _ _ _ _ _ _ _ _ _ _ _ _ _ _ _ _ _ _ _ _ _ wq ?_ ?_
                  · intro n8 z2 z3 z4 z205 z206 z207 z208 z209 z210 z211 z212 z213 z214 z215 h34 e2' e3'
                    subst e2' e3'
                    have HF := hid (HEN.out.symm ▸ fl_last H0.out hi H44e.out NB.out h34)
                    clear h34
                    go_wp2_with (first | (at_builtin; refine wpList_app0 rfl (.tmp 216) (.tmp 221) 24 rfl w.heap.size 9 i9 (.string ⟨#[]⟩) 1 16 Tryf.underlying24 hi9 hz90 hz91 hz92 rfl (by decide) u9 acc.length (acc.map strV) rfl (HMI.out.ow.alloc _) ⟨wq.heap.size, 0, none⟩ 1 1 [.string (s.extract i (m))] rfl rfl (cell_one_new _ _ _) (by intro u hu; simp at hu; subst hu; rfl) (by unfold maxLen; omega) (by omega) (by simp; omega) ?_; intro p5 c5 w5 HO5 hu5 hg5))
                    have HN := hid (HMI.out.last HF.out (by omega) (HMI.out.row (Upd.refl _ _) _ hu5 (ext_pc s i (m)) HO5))
                    clear HO5 hu5 hg5
                    go_roundg (gk - 1)
                    case measure => omega
                    case rel => exact ⟨H2.out, H3.out, .inr ⟨rfl, m + 1, _, by simp, HN.out⟩⟩
                  · intro z18 z205 z206 z207 z208 z209 z210 z211 z212 z213 z214 z215 h34
                    have HF := hid (fl_bad H0.out hi H44e.out NB.out h34)
                    clear h34
                    go_wp2_with fail
                    have e2 := H2.out
                    have e3 := H3.out
                    subst e2 e3
                    exact HRT.out _ _ _ _ _ _ _ _ _ _ _ _ _ _ _ _ _ _ _ _ _ _ _ _ _ _ _ _ _ _ _ _ _ _ _ _ _ _ _ _ _ _ _ _ _ _ _ _ _ _ _ _ _ _ _ _ _ _ _ _ _ _ _ _ _ _ _ _ _ _ _ _ _ _ _ _ _ _ _ _ _ _ _ _ _ _ _ _ _ _ _ _ _ _ _ _ _ _ _ _ _ _ _ _ _ _ _ _ _ _ _ _ _ _ _ _ _ _ _ _ _ _ _ _ _ _ _ _ _ _ _ _ _ _ _ _ _ _ _ _ _ _ _ _ _ _ _ _ _ _ _ _ _ _ (HMI.out.bad HF.out) HMI.out.up
              · have n10 : cb s 10 i (m + 1) = m := cb_hit hie hel2 (byte_is (c := 10) c10)
                by_cases him : i < m
                · have himI : (i : Int) < m := by omega
                  obtain ⟨q, rfl⟩ : ∃ q, m = q + 1 := ⟨m - 1, by omega⟩
                  have hqs : q < s.size := by omega
                  have hqI : (q : Int) < s.size := by omega
                  cases c13 : ((s[q].toNat : Int) == 13)
                  · have NB := hid (show cb s 13 i (cb s 10 i (lend s i)) = q + 1 by rw [← HEN.out, n10]; exact cb_miss him (by omega) (byte_not (c := 13) c13))
                    clear n10
                    have bI1 : (i : Int) ≤ (q : Int) + 1 := by omega
                    have bI2 : ((q : Int) + 1 : Int) ≤ s.size := by omega
                    go_wp2_with fail
                    refine loop8 s i (q + 1) hs (by omega) (by omega) _ _ _ _ _ _ _ _ _ _ _ _ _ _ _ _ _ _ _ _ _ _ _ _ _ _ _ _ _ _ _ _ _ _ _ _ _ _ _ _ _ _ _ _ _ _ _ _ _ _ _ _ _ _ _ _ _ _ _ _ _ _ _ _ _ _ _ _ _ _ _ _ _ _ _ _ _ _ _ _ _ _ _ _ _ _ _ _ _ _ _ _ _ _ _ _ _ _ _ _ _ _ _ _ _ _ _ _ _ _ _ _ _ _ _ _ _ _ _ _ _ _ _ _ _ _ _ _ _ _ _ _ _ _ _ _ _ _ _ _ _ _ _ _ _ _ _ _ _ _ _ _ _ _ _ _ _ _ _ _ _ _ _ _ _ _ _ _ _ _ _ _ _ _ _ _ _ _ _ _ _ _ _ _ _ _ _ _ _ _ _ _ _ _ _ _ _ _ _ _ _ _ _ _ _ _ _ _ _ _ _ _ _ _ _ _ _ _ _ _ _ _ _ _ _ _ _ _ _ _ _ _ _ _ _ _ _ _ _ _ wq ?_ ?_
                    · intro n8 z2 z3 z4 z205 z206 z207 z208 z209 z210 z211 z212 z213 z214 z215 h34 e2' e3'
                      subst e2' e3'
                      have HF := hid (HEN.out.symm ▸ fl_last H0.out hi H44e.out NB.out h34)
                      clear h34
                      go_wp2_with (first | (at_builtin; refine wpList_app0 rfl (.tmp 216) (.tmp 221) 24 rfl w.heap.size 9 i9 (.string ⟨#[]⟩) 1 16 Tryf.underlying24 hi9 hz90 hz91 hz92 rfl (by decide) u9 acc.length (acc.map strV) rfl (HMI.out.ow.alloc _) ⟨wq.heap.size, 0, none⟩ 1 1 [.string (s.extract i (q + 1))] rfl rfl (cell_one_new _ _ _) (by intro u hu; simp at hu; subst hu; rfl) (by unfold maxLen; omega) (by omega) (by simp; omega) ?_; intro p5 c5 w5 HO5 hu5 hg5))
                      have HN := hid (HMI.out.last HF.out (by omega) (HMI.out.row (Upd.refl _ _) _ hu5 (ext_pc s i (q + 1)) HO5))
                      clear HO5 hu5 hg5
                      go_roundg (gk - 1)
                      case measure => omega
                      case rel => exact ⟨H2.out, H3.out, .inr ⟨rfl, q + 1 + 1, _, by simp, HN.out⟩⟩
                    · intro z18 z205 z206 z207 z208 z209 z210 z211 z212 z213 z214 z215 h34
                      have HF := hid (fl_bad H0.out hi H44e.out NB.out h34)
                      clear h34
                      go_wp2_with fail
                      have e2 := H2.out
                      have e3 := H3.out
                      subst e2 e3
                      exact HRT.out _ _ _ _ _ _ _ _ _ _ _ _ _ _ _ _ _ _ _ _ _ _ _ _ _ _ _ _ _ _ _ _ _ _ _ _ _ _ _ _ _ _ _ _ _ _ _ _ _ _ _ _ _ _ _ _ _ _ _ _ _ _ _ _ _ _ _ _ _ _ _ _ _ _ _ _ _ _ _ _ _ _ _ _ _ _ _ _ _ _ _ _ _ _ _ _ _ _ _ _ _ _ _ _ _ _ _ _ _ _ _ _ _ _ _ _ _ _ _ _ _ _ _ _ _ _ _ _ _ _ _ _ _ _ _ _ _ _ _ _ _ _ _ _ _ _ _ _ _ _ _ _ _ _ (HMI.out.bad HF.out) HMI.out.up
                  · have NB := hid (show cb s 13 i (cb s 10 i (lend s i)) = q by rw [← HEN.out, n10]; exact cb_hit him (by omega) (byte_is (c := 13) c13))
                    clear n10
                    have bI1 : (i : Int) ≤ (q : Int) := by omega
                    have bI2 : ((q : Int) : Int) ≤ s.size := by omega
                    go_wp2_with fail
                    refine loop8 s i (q) hs (by omega) (by omega) _ _ _ _ _ _ _ _ _ _ _ _ _ _ _ _ _ _ _ _ _ _ _ _ _ _ _ _ _ _ _ _ _ _ _ _ _ _ _ _ _ _ _ _ _ _ _ _ _ _ _ _ _ _ _ _ _ _ _ _ _ _ _ _ _ _ _ _ _ _ _ _ _ _ _ _ _ _ _ _ _ _ _ _ _ _ _ _ _ _ _ _ _ _ _ _ _ _ _ _ _ _ _ _ _ _ _ _ _ _ _ _ _ _ _ _ _ _ _ _ _ _ _ _ _ _ _ _ _ _ _ _ _ _ _ _ _ _ _ _ _ _ _ _ _ _ _ _ _ _ _ _ _ _ _ _ _ _ _ _ _ _ _ _ _ _ _ _ _ _ _ _ _ _ _ _ _ _ _ _ _ _ _ _ _ _ _ _ _ _ _ _ _ _ _ _ _ _ _ _ _ _ _ _ _ _ _ _ _ _ _ _ _ _ _ _ _ _ _ _ _ _ _ _ _ _ _ _ _ _ _ _ _ _ _ _ _ _ _ _ wq ?_ ?_
                    · intro n8 z2 z3 z4 z205 z206 z207 z208 z209 z210 z211 z212 z213 z214 z215 h34 e2' e3'
                      subst e2' e3'
                      have HF := hid (HEN.out.symm ▸ fl_last H0.out hi H44e.out NB.out h34)
                      clear h34
                      go_wp2_with (first | (at_builtin; refine wpList_app0 rfl (.tmp 216) (.tmp 221) 24 rfl w.heap.size 9 i9 (.string ⟨#[]⟩) 1 16 Tryf.underlying24 hi9 hz90 hz91 hz92 rfl (by decide) u9 acc.length (acc.map strV) rfl (HMI.out.ow.alloc _) ⟨wq.heap.size, 0, none⟩ 1 1 [.string (s.extract i (q))] rfl rfl (cell_one_new _ _ _) (by intro u hu; simp at hu; subst hu; rfl) (by unfold maxLen; omega) (by omega) (by simp; omega) ?_; intro p5 c5 w5 HO5 hu5 hg5))
                      have HN := hid (HMI.out.last HF.out (by omega) (HMI.out.row (Upd.refl _ _) _ hu5 (ext_pc s i (q)) HO5))
                      clear HO5 hu5 hg5
                      go_roundg (gk - 1)
                      case measure => omega
                      case rel => exact ⟨H2.out, H3.out, .inr ⟨rfl, q + 1 + 1, _, by simp, HN.out⟩⟩
                    · intro z18 z205 z206 z207 z208 z209 z210 z211 z212 z213 z214 z215 h34
                      have HF := hid (fl_bad H0.out hi H44e.out NB.out h34)
                      clear h34
                      go_wp2_with fail
                      have e2 := H2.out
                      have e3 := H3.out
                      subst e2 e3
                      exact HRT.out _ _ _ _ _ _ _ _ _ _ _ _ _ _ _ _ _ _ _ _ _ _ _ _ _ _ _ _ _ _ _ _ _ _ _ _ _ _ _ _ _ _ _ _ _ _ _ _ _ _ _ _ _ _ _ _ _ _ _ _ _ _ _ _ _ _ _ _ _ _ _ _ _ _ _ _ _ _ _ _ _ _ _ _ _ _ _ _ _ _ _ _ _ _ _ _ _ _ _ _ _ _ _ _ _ _ _ _ _ _ _ _ _ _ _ _ _ _ _ _ _ _ _ _ _ _ _ _ _ _ _ _ _ _ _ _ _ _ _ _ _ _ _ _ _ _ _ _ _ _ _ _ _ _ (HMI.out.bad HF.out) HMI.out.up
                · have himI : ¬ ((i : Int) < m) := by omega
                  have NB := hid (show cb s 13 i (cb s 10 i (lend s i)) = m by rw [← HEN.out, n10]; exact cb_none him)
                  clear n10
                  have bI1 : (i : Int) ≤ (m : Int) := by omega
                  have bI2 : ((m : Int) : Int) ≤ s.size := by omega
                  go_wp2_with fail
                  refine loop8 s i (m) hs (by omega) (by omega) _ _ _ _ _ _ _ _ _ _ _ _ _ _ _ _ _ _ _ _ _ _ _ _ _ _ _ _ _ _ _ _ _ _ _ _ _ _ _ _ _ _ _ _ _ _ _ _ _ _ _ _ _ _ _ _ _ _ _ _ _ _ _ _ _ _ _ _ _ _ _ _ _ _ _ _ _ _ _ _ _ _ _ _ _ _ _ _ _ _ _ _ _ _ _ _ _ _ _ _ _ _ _ _ _ _ _ _ _ _ _ _ _ _ _ _ _ _ _ _ _ _ _ _ _ _ _ _ _ _ _ _ _ _ _ _ _ _ _ _ _ _ _ _ _ _ _ _ _ _ _ _ _ _ _ _ _ _ _ _ _ _ _ _ _ _ _ _ _ _ _ _ _ _ _ _ _ _ _ _ _ _ _ _ _ _ _ _ _ _ _ _ _ _ _ _ _ _ _ _ _ _ _ _ _ _ _ _ _ _ _ _ _ _ _ _ _ _ _ _ _ _ _ _ _ _ _ _ _ _ _ _ _ _ _ _ _ _ _ _ wq ?_ ?_
                  · intro n8 z2 z3 z4 z205 z206 z207 z208 z209 z210 z211 z212 z213 z214 z215 h34 e2' e3'
                    subst e2' e3'
                    have HF := hid (HEN.out.symm ▸ fl_last H0.out hi H44e.out NB.out h34)
                    clear h34
                    go_wp2_with (first | (at_builtin; refine wpList_app0 rfl (.tmp 216) (.tmp 221) 24 rfl w.heap.size 9 i9 (.string ⟨#[]⟩) 1 16 Tryf.underlying24 hi9 hz90 hz91 hz92 rfl (by decide) u9 acc.length (acc.map strV) rfl (HMI.out.ow.alloc _) ⟨wq.heap.size, 0, none⟩ 1 1 [.string (s.extract i (m))] rfl rfl (cell_one_new _ _ _) (by intro u hu; simp at hu; subst hu; rfl) (by unfold maxLen; omega) (by omega) (by simp; omega) ?_; intro p5 c5 w5 HO5 hu5 hg5))
                    have HN := hid (HMI.out.last HF.out (by omega) (HMI.out.row (Upd.refl _ _) _ hu5 (ext_pc s i (m)) HO5))
                    clear HO5 hu5 hg5
                    go_roundg (gk - 1)
                    case measure => omega
                    case rel => exact ⟨H2.out, H3.out, .inr ⟨rfl, m + 1, _, by simp, HN.out⟩⟩
                  · intro z18 z205 z206 z207 z208 z209 z210 z211 z212 z213 z214 z215 h34
                    have HF := hid (fl_bad H0.out hi H44e.out NB.out h34)
                    clear h34
                    go_wp2_with fail
                    have e2 := H2.out
                    have e3 := H3.out
                    subst e2 e3
                    exact HRT.out _ _ _ _ _ _ _ _ _ _ _ _ _ _ _ _ _ _ _ _ _ _ _ _ _ _ _ _ _ _ _ _ _ _ _ _ _ _ _ _ _ _ _ _ _ _ _ _ _ _ _ _ _ _ _ _ _ _ _ _ _ _ _ _ _ _ _ _ _ _ _ _ _ _ _ _ _ _ _ _ _ _ _ _ _ _ _ _ _ _ _ _ _ _ _ _ _ _ _ _ _ _ _ _ _ _ _ _ _ _ _ _ _ _ _ _ _ _ _ _ _ _ _ _ _ _ _ _ _ _ _ _ _ _ _ _ _ _ _ _ _ _ _ _ _ _ _ _ _ _ _ _ _ _ (HMI.out.bad HF.out) HMI.out.up
            · have hieI : ¬ ((i : Int) < k) := by omega
              have NB := hid (show cb s 13 i (cb s 10 i (lend s i)) = k by rw [← HEN.out, cb_none hie, cb_none hie])
              have bI1 : (i : Int) ≤ (k : Int) := by omega
              have bI2 : ((k : Int) : Int) ≤ s.size := by omega
              go_wp2_with fail
              refine loop8 s i (k) hs (by omega) (by omega) _ _ _ _ _ _ _ _ _ _ _ _ _ _ _ _ _ _ _ _ _ _ _ _ _ _ _ _ _ _ _ _ _ _ _ _ _ _ _ _ _ _ _ _ _ _ _ _ _ _ _ _ _ _ _ _ _ _ _ _ _ _ _ _ _ _ _ _ _ _ _ _ _ _ _ _ _ _ _ _ _ _ _ _ _ _ _ _ _ _ _ _ _ _ _ _ _ _ _ _ _ _ _ _ _ _ _ _ _ _ _ _ _ _ _ _ _ _ _ _ _ _ _ _ _ _ _ _ _ _ _ _ _ _ _ _ _ _ _ _ _ _ _ _ _ _ _ _ _ _ _ _ _ _ _ _ _ _ _ _ _ _ _ _ _ _ _ _ _ _ _ _ _ _ _ _ _ _ _ _ _ _ _ _ _ _ _ _ _ _ _ _ _ _ _ _ _ _ _ _ _ _ _ _ _ _ _ _ _ _ _ _ _ _ _ _ _ _ _ _ _ _ _ _ _ _ _ _ _ _ _ _ _ _ _ _ _ _ _ _ wq ?_ ?_
              · intro n8 z2 z3 z4 z205 z206 z207 z208 z209 z210 z211 z212 z213 z214 z215 h34 e2' e3'
                subst e2' e3'
                have HF := hid (HEN.out.symm ▸ fl_last H0.out hi H44e.out NB.out h34)
                clear h34
                go_wp2_with (first | (at_builtin; refine wpList_app0 rfl (.tmp 216) (.tmp 221) 24 rfl w.heap.size 9 i9 (.string ⟨#[]⟩) 1 16 Tryf.underlying24 hi9 hz90 hz91 hz92 rfl (by decide) u9 acc.length (acc.map strV) rfl (HMI.out.ow.alloc _) ⟨wq.heap.size, 0, none⟩ 1 1 [.string (s.extract i (k))] rfl rfl (cell_one_new _ _ _) (by intro u hu; simp at hu; subst hu; rfl) (by unfold maxLen; omega) (by omega) (by simp; omega) ?_; intro p5 c5 w5 HO5 hu5 hg5))
                have HN := hid (HMI.out.last HF.out (by omega) (HMI.out.row (Upd.refl _ _) _ hu5 (ext_pc s i (k)) HO5))
                clear HO5 hu5 hg5
                go_roundg (gk - 1)
                case measure => omega
                case rel => exact ⟨H2.out, H3.out, .inr ⟨rfl, k, _, by simp, HN.out⟩⟩
              · intro z18 z205 z206 z207 z208 z209 z210 z211 z212 z213 z214 z215 h34
                have HF := hid (fl_bad H0.out hi H44e.out NB.out h34)
                clear h34
                go_wp2_with fail
                have e2 := H2.out
                have e3 := H3.out
                subst e2 e3
                exact HRT.out _ _ _ _ _ _ _ _ _ _ _ _ _ _ _ _ _ _ _ _ _ _ _ _ _ _ _ _ _ _ _ _ _ _ _ _ _ _ _ _ _ _ _ _ _ _ _ _ _ _ _ _ _ _ _ _ _ _ _ _ _ _ _ _ _ _ _ _ _ _ _ _ _ _ _ _ _ _ _ _ _ _ _ _ _ _ _ _ _ _ _ _ _ _ _ _ _ _ _ _ _ _ _ _ _ _ _ _ _ _ _ _ _ _ _ _ _ _ _ _ _ _ _ _ _ _ _ _ _ _ _ _ _ _ _ _ _ _ _ _ _ _ _ _ _ _ _ _ _ _ _ _ _ _ (HMI.out.bad HF.out) HMI.out.up
          · have hkI : (k : Int) < en := by omega
            have HC44 := hid hc44
            clear hc44
            have HKL := hid (show k < lend s i by rw [← HEN.out]; exact hkl)
            have bI1 : (i : Int) ≤ (k : Int) := by omega
            have bI2 : ((k : Int) : Int) ≤ s.size := by omega
            go_wp2_with fail
            refine loop8 s i (k) hs (by omega) (by omega) _ _ _ _ _ _ _ _ _ _ _ _ _ _ _ _ _ _ _ _ _ _ _ _ _ _ _ _ _ _ _ _ _ _ _ _ _ _ _ _ _ _ _ _ _ _ _ _ _ _ _ _ _ _ _ _ _ _ _ _ _ _ _ _ _ _ _ _ _ _ _ _ _ _ _ _ _ _ _ _ _ _ _ _ _ _ _ _ _ _ _ _ _ _ _ _ _ _ _ _ _ _ _ _ _ _ _ _ _ _ _ _ _ _ _ _ _ _ _ _ _ _ _ _ _ _ _ _ _ _ _ _ _ _ _ _ _ _ _ _ _ _ _ _ _ _ _ _ _ _ _ _ _ _ _ _ _ _ _ _ _ _ _ _ _ _ _ _ _ _ _ _ _ _ _ _ _ _ _ _ _ _ _ _ _ _ _ _ _ _ _ _ _ _ _ _ _ _ _ _ _ _ _ _ _ _ _ _ _ _ _ _ _ _ _ _ _ _ _ _ _ _ _ _ _ _ _ _ _ _ _ _ _ _ _ _ _ _ _ _ wq ?_ ?_
            · intro n8 z2 z3 z4 z205 z206 z207 z208 z209 z210 z211 z212 z213 z214 z215 h34 e2' e3'
              subst e2' e3'
              have HF := hid (fc_more H0.out hi hik HKL.out hks HC44.out H44.out h34)
              clear h34
              go_wp2_with (first | (at_builtin; refine wpList_app0 rfl (.tmp 216) (.tmp 221) 24 rfl w.heap.size 9 i9 (.string ⟨#[]⟩) 1 16 Tryf.underlying24 hi9 hz90 hz91 hz92 rfl (by decide) u9 acc.length (acc.map strV) rfl (HMI.out.ow.alloc _) ⟨wq.heap.size, 0, none⟩ 1 1 [.string (s.extract i (k))] rfl rfl (cell_one_new _ _ _) (by intro u hu; simp at hu; subst hu; rfl) (by unfold maxLen; omega) (by omega) (by simp; omega) ?_; intro p5 c5 w5 HO5 hu5 hg5))
              have HN := hid (HMI.out.more HF.out (by omega) (HMI.out.row (Upd.refl _ _) _ hu5 (ext_pc s i (k)) HO5))
              have hlt2 := HN.out.2
              clear HO5 hu5 hg5
              go_roundg (gk - 1)
              case measure => omega
              case rel => exact ⟨H2.out, H3.out, .inl ⟨rfl, k + 1, _, by simp, by omega, HN.out.1⟩⟩
            · intro z18 z205 z206 z207 z208 z209 z210 z211 z212 z213 z214 z215 h34
              have HF := hid (fc_bad H0.out hi hik HKL.out hks HC44.out H44.out h34)
              clear h34
              go_wp2_with fail
              have e2 := H2.out
              have e3 := H3.out
              subst e2 e3
              exact HRT.out _ _ _ _ _ _ _ _ _ _ _ _ _ _ _ _ _ _ _ _ _ _ _ _ _ _ _ _ _ _ _ _ _ _ _ _ _ _ _ _ _ _ _ _ _ _ _ _ _ _ _ _ _ _ _ _ _ _ _ _ _ _ _ _ _ _ _ _ _ _ _ _ _ _ _ _ _ _ _ _ _ _ _ _ _ _ _ _ _ _ _ _ _ _ _ _ _ _ _ _ _ _ _ _ _ _ _ _ _ _ _ _ _ _ _ _ _ _ _ _ _ _ _ _ _ _ _ _ _ _ _ _ _ _ _ _ _ _ _ _ _ _ _ _ _ _ _ _ _ _ _ _ _ _ (HMI.out.bad HF.out) HMI.out.up
        · have hltI : ¬ ((i : Int) < s.size) := by omega
          clear hqd
          go_wp2_with fail
          go_fit ql
          rintro e wq ⟨rfl, hwq⟩
          clear ql
          subst hwq
          go_wp2_with fail
          refine loop7 s i en hs hel1 hel2 _ _ _ _ _ _ _ _ _ _ _ _ _ _ _ _ _ _ _ _ _ _ _ _ _ _ _ _ _ _ _ _ _ _ _ _ _ _ _ _ _ _ _ _ _ _ _ _ _ _ _ _ _ _ _ _ _ _ _ _ _ _ _ _ _ _ _ _ _ _ _ _ _ _ _ _ _ _ _ _ _ _ _ _ _ _ _ _ _ _ _ _ _ _ _ _ _ _ _ _ _ _ _ _ _ _ _ _ _ _ _ _ _ _ _ _ _ _ _ _ _ _ _ _ _ _ _ _ _ _ _ _ _ _ _ _ _ _ _ _ _ _ _ _ _ _ _ _ _ _ _ _ _ _ _ _ _ _ _ _ _ _ _ _ _ _ _ _ _ _ _ _ _ _ _ _ _ _ _ _ _ _ _ _ _ _ _ _ _ _ _ _ _ _ _ _ _ _ _ _ _ _ _ _ _ _ _ _ _ _ _ _ _ _ _ _ _ _ _ _ _ _ _ _ _ _ _ _ _ _ _ _ _ _ _ _ _ _ _ _ wq ?_
          intro k y161 y162 y163 y164 y165 y166 y167 y168 y169 y170 y171 hik hke h44 hor
          have H44 := hid h44
          clear h44
          rcases hor with hke2 | ⟨hkl, hks, hc44⟩
          · have hkI : ¬ ((k : Int) < en) := by omega
            obtain rfl : k = en := hke2
            have H44e := hid (show (44 : UInt8) ∉ pc s i (lend s i) by rw [← HEN.out]; exact H44.out)
            have hie : ¬ i < k := by omega
            have hieI : ¬ ((i : Int) < k) := by omega
            have NB := hid (show cb s 13 i (cb s 10 i (lend s i)) = k by rw [← HEN.out, cb_none hie, cb_none hie])
            have bI1 : (i : Int) ≤ (k : Int) := by omega
            have bI2 : ((k : Int) : Int) ≤ s.size := by omega
            go_wp2_with fail
            refine loop8 s i (k) hs (by omega) (by omega) _ _ _ _ _ _ _ _ _ _ _ _ _ _ _ _ _ _ _ _ _ _ _ _ _ _ _ _ _ _ _ _ _ _ _ _ _ _ _ _ _ _ _ _ _ _ _ _ _ _ _ _ _ _ _ _ _ _ _ _ _ _ _ _ _ _ _ _ _ _ _ _ _ _ _ _ _ _ _ _ _ _ _ _ _ _ _ _ _ _ _ _ _ _ _ _ _ _ _ _ _ _ _ _ _ _ _ _ _ _ _ _ _ _ _ _ _ _ _ _ _ _ _ _ _ _ _ _ _ _ _ _ _ _ _ _ _ _ _ _ _ _ _ _ _ _ _ _ _ _ _ _ _ _ _ _ _ _ _ _ _ _ _ _ _ _ _ _ _ _ _ _ _ _ _ _ _ _ _ _ _ _ _ _ _ _ _ _ _ _ _ _ _ _ _ _ _ _ _ _ _ _ _ _ _ _ _ _ _ _ _ _ _ _ _ _ _ _ _ _ _ _ _ _ _ _ _ _ _ _ _ _ _ _ _ _ _ _ _ _ wq ?_ ?_
            · intro n8 z2 z3 z4 z205 z206 z207 z208 z209 z210 z211 z212 z213 z214 z215 h34 e2' e3'
              subst e2' e3'
              have HF := hid (HEN.out.symm ▸ fl_last H0.out hi H44e.out NB.out h34)
              clear h34
              go_wp2_with (first | (at_builtin; refine wpList_app0 rfl (.tmp 216) (.tmp 221) 24 rfl w.heap.size 9 i9 (.string ⟨#[]⟩) 1 16 Tryf.underlying24 hi9 hz90 hz91 hz92 rfl (by decide) u9 acc.length (acc.map strV) rfl (HMI.out.ow.alloc _) ⟨wq.heap.size, 0, none⟩ 1 1 [.string (s.extract i (k))] rfl rfl (cell_one_new _ _ _) (by intro u hu; simp at hu; subst hu; rfl) (by unfold maxLen; omega) (by omega) (by simp; omega) ?_; intro p5 c5 w5 HO5 hu5 hg5))
              have HN := hid (HMI.out.last HF.out (by omega) (HMI.out.row (Upd.refl _ _) _ hu5 (ext_pc s i (k)) HO5))
              clear HO5 hu5 hg5
              go_roundg (gk - 1)
              case measure => omega
              case rel => exact ⟨H2.out, H3.out, .inr ⟨rfl, k, _, by simp, HN.out⟩⟩
            · intro z18 z205 z206 z207 z208 z209 z210 z211 z212 z213 z214 z215 h34
              have HF := hid (fl_bad H0.out hi H44e.out NB.out h34)
              clear h34
              go_wp2_with fail
              have e2 := H2.out
              have e3 := H3.out
              subst e2 e3
              exact HRT.out _ _ _ _ _ _ _ _ _ _ _ _ _ _ _ _ _ _ _ _ _ _ _ _ _ _ _ _ _ _ _ _ _ _ _ _ _ _ _ _ _ _ _ _ _ _ _ _ _ _ _ _ _ _ _ _ _ _ _ _ _ _ _ _ _ _ _ _ _ _ _ _ _ _ _ _ _ _ _ _ _ _ _ _ _ _ _ _ _ _ _ _ _ _ _ _ _ _ _ _ _ _ _ _ _ _ _ _ _ _ _ _ _ _ _ _ _ _ _ _ _ _ _ _ _ _ _ _ _ _ _ _ _ _ _ _ _ _ _ _ _ _ _ _ _ _ _ _ _ _ _ _ _ _ (HMI.out.bad HF.out) HMI.out.up
          · exfalso
            omega
    · go_wp2_with fail
      exact HEX.out acc i _ _ _ _ _ _ _ _ _ _ _ _ _ _ _ _ _ _ _ _ _ _ _ _ _ _ _ _ _ _ _ _ _ _ _ _ _ _ _ _ _ _ _ _ _ _ _ _ _ _ _ _ _ _ _ _ _ _ _ _ _ _ _ _ _ _ _ _ _ _ _ _ _ _ _ _ _ _ _ _ _ _ _ _ _ _ _ _ _ _ _ _ _ _ _ _ _ _ _ _ _ _ _ _ _ _ _ _ _ _ _ _ _ _ _ _ _ _ _ _ _ _ _ _ _ _ _ _ _ _ _ _ _ _ _ _ _ _ _ _ _ _ _ _ _ _ _ _ _ _ _ _ _ _ _ _ hme H2.out H3.out
end Go.Proofs.Qxb6613956aFmt.W
