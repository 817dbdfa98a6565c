/-
  Pieces of a line; bytes.Cut at a comma; trimBreak.
-/
import Derived.Test.Qxb6613956aFmtRd
import Derived.Test.Qxb6613956aFmtShelf2
namespace Go.Proofs.Qxb6613956aFmt.W
open Go.RowKit

theorem idx_hit (p r : List UInt8) (c : UInt8) (h : c ∉ p) : Lib.indexByte (p ++ c :: r) c = p.length := by
  induction p with
  | nil => simp [Lib.indexByte]
  | cons x p ih =>
    simp only [List.mem_cons, not_or] at h
    have hx : (x == c) = false := by simp; exact fun e => h.1 e.symm
    rw [List.cons_append, Lib.indexByte, hx, ih h.2]
    simp
theorem idx_miss (l : List UInt8) (c : UInt8) (h : c ∉ l) : Lib.indexByte l c = -1 := by
  induction l with
  | nil => rfl
  | cons x p ih =>
    simp only [List.mem_cons, not_or] at h
    have hx : (x == c) = false := by simp; exact fun e => h.1 e.symm
    rw [Lib.indexByte, hx, ih h.2]
    simp

/-- the bytes as numbers -/
def nums (l : List UInt8) : List Int := l.map fun b => (b.toNat : Int)

section
variable {w w' : World} {b n c : Nat} {a : Addr} {v : Value} {L : List UInt8}

theorem LineIn.form (h : LineIn w b v L) : ∃ a c, v = .slice (some a) L.length c ∧ L.length ≤ c ∧ c ≤ maxLen := by
  obtain ⟨a, c, e, h1, h2, _⟩ := h
  exact ⟨a, c, e, h1, h2⟩
theorem LineIn.parts (h : LineIn w b (.slice (some a) n c) L) : n = L.length ∧ n ≤ c ∧ c ≤ maxLen ∧ (0 < L.length → ∃ o, a = ⟨b, o, none⟩ ∧ ∀ j (h : j < L.length), w.cell? ⟨b, o + j, none⟩ = some (.int .u8 (L[j].toNat : Int))) := by
  obtain ⟨a', c', e, h1, h2, h3⟩ := h
  simp at e
  obtain ⟨rfl, rfl, rfl⟩ := e
  exact ⟨rfl, h1, h2, h3⟩
theorem LineIn.pre {P : List UInt8} (h : LineIn w b (.slice (some a) L.length c) L) (hP : ∃ r, P ++ r = L) : LineIn w b (.slice (some a) P.length c) P := by
  obtain ⟨r, rfl⟩ := hP
  obtain ⟨_, h1, h2, h3⟩ := h.parts
  rw [List.length_append] at h1
  refine ⟨a, c, rfl, by omega, h2, fun h0 => ?_⟩
  obtain ⟨o, ea, hc⟩ := h3 (by simp; omega)
  refine ⟨o, ea, fun j hj => ?_⟩
  rw [hc j (by simp; omega), List.getElem_append_left hj]
theorem LineIn.rest (h : LineIn w b (.slice (some a) L.length c) L) (j : Nat) (hj : j ≤ L.length) (a' : Addr) (ha : j < c → a' = a.add j) : LineIn w b (.slice (some a') (L.length - j) (c - j)) (L.drop j) := by
  obtain ⟨_, h1, h2, h3⟩ := h.parts
  refine ⟨a', c - j, by rw [List.length_drop], by rw [List.length_drop]; omega, by omega, fun h0 => ?_⟩
  rw [List.length_drop] at h0
  obtain ⟨o, ea, hc⟩ := h3 (by omega)
  refine ⟨o + j, by rw [ha (by omega), ea, add_addr], fun i hi => ?_⟩
  rw [List.length_drop] at hi
  rw [Nat.add_assoc, hc (j + i) (by omega), List.getElem_drop]
theorem LineIn.bytes (h : LineIn w b (.slice (some a) L.length c) L) : Lib.BytesIn w (some a) L.length (nums L) := by
  intro h0
  obtain ⟨_, _, _, h3⟩ := h.parts
  obtain ⟨o, ea, hc⟩ := h3 h0
  exact ⟨b, o, by rw [ea], fun i hi => by rw [hc i hi, nums, nums_getD L i hi]⟩
theorem LineIn.cells (h : LineIn w b (.slice (some a) L.length c) L) (i : Nat) (hi : i < L.length) : w.cell? (a.add i) = some (.int .u8 ((nums L).getD i 0)) := by
  obtain ⟨_, _, _, h3⟩ := h.parts
  obtain ⟨o, ea, hc⟩ := h3 (by omega)
  rw [ea, add_addr, hc i hi, nums, nums_getD L i hi]
theorem LineIn.news (h : LineIn w b (.slice (some a) L.length c) L) : ∀ (j : Nat) (u : Value), (Lib.byteCells L)[j]? = some u → w.cell? (a.add j) = some u := news_of h.parts.2.2.2
theorem LineIn.far {S : List Nat} (h : LineIn w b v L) (hu : Upd S w w') (hb : b < w.heap.size) (hS : b ∉ S) : LineIn w' b v L := h.upd (hu.block b hb hS)
end

theorem nums_length (l : List UInt8) : (nums l).length = l.length := by simp [nums]
theorem bytesOf_nums' (l : List UInt8) : Lib.bytesOf (nums l) = l := bytesOf_nums l

theorem suffix_one (d : UInt8) (L : List UInt8) : Lib.hasSuffix L [d] = true ↔ L.getLast? = some d := by
  unfold Lib.hasSuffix
  rw [List.isSuffixOf_iff_suffix]
  constructor
  · rintro ⟨p, rfl⟩; simp
  · intro h
    obtain ⟨p, rfl⟩ := List.getLast?_eq_some_iff.1 h
    exact ⟨p, rfl⟩

theorem chop_len_hit {d : UInt8} {L : List UInt8} (h : L.getLast? = some d) : (chop d L).length = L.length - 1 := by simp [chop, h]

theorem trimV {w : World} {b c : Nat} {a : Addr} {L : List UInt8} (h : LineIn w b (.slice (some a) L.length c) L) (d : UInt8) : Lib.trimSuffixV (some a) L.length c (nums L) [(d.toNat : Int)] = .slice (some a) (chop d L).length c := by
  have e : Lib.bytesOf [(d.toNat : Int)] = [d] := bytesOf_nums [d]
  obtain ⟨bk, o, sp⟩ := a
  cases sp with
  | none =>
    show Lib.bytesTrimSuffix bk o L.length c (nums L) [(d.toNat : Int)] = _
    unfold Lib.bytesTrimSuffix
    rw [bytesOf_nums', e]
    by_cases hs : L.getLast? = some d
    · rw [if_pos ((suffix_one d L).2 hs), chop_len_hit hs]
      rfl
    · rw [if_neg (fun hh => hs ((suffix_one d L).1 hh)), chop_not hs]
  | some x =>
    show Value.slice _ _ _ = _
    obtain ⟨_, _, _, h3⟩ := h.parts
    cases L with
    | nil => simp [chop]
    | cons y l =>
      obtain ⟨o', ea, _⟩ := h3 (by simp)
      simp at ea

/-- bytes.CutSuffix at one byte -/
theorem cutSuffix_one {b c : Nat} {a p2 : Addr} {L : List UInt8} (d : UInt8) (w : World) (h : LineIn w b (.slice (some a) L.length c) L) (hd : w.cell? p2 = some (.int .u8 (d.toNat : Int))) (hp : p2.spot = none) :
    Calls Tryf.prog 51 #[.slice (some a) L.length c, .slice (some p2) 1 1] w fun e w' => e = .returned (.tuple #[.slice (some a) (chop d L).length c, .bool (Lib.hasSuffix L [d])]) ∧ w' = w := by
  obtain ⟨_, h1, h2, _⟩ := h.parts
  have := Tryf.bytes_CutSuffix_all (some a) (some p2) L.length c 1 1 (nums L) [(d.toNat : Int)] w (nums_length L) rfl h1 (by unfold maxLen at h2; omega) h.bytes (fun _ => ⟨p2.block, p2.off, by rw [← hp], fun i hi => by
    obtain rfl : i = 0 := by omega
    rw [Nat.add_zero]
    have e2 : p2 = ⟨p2.block, p2.off, none⟩ := by rw [← hp]
    rw [← e2, hd]; rfl⟩)
  rw [trimV h d, bytesOf_nums', show Lib.bytesOf [(d.toNat : Int)] = [d] from bytesOf_nums [d]] at this
  exact this

set_option maxHeartbeats 400000 in
theorem trimBreak_any {b c : Nat} {a : Addr} {L : List UInt8} (w : World) (h : LineIn w b (.slice (some a) L.length c) L) (hb : b < w.heap.size) :
    Calls Tryf.prog 41 #[.slice (some a) L.length c] w fun e w' => e = .returned (.slice (some a) (trim L).length c) ∧ Upd [] w w' := by
  have g0 := h.far ((Upd.refl [] w).alloc (.cells #[.int .u8 10] 5 (0, 0))) hb (by simp)
  have hp : ∃ r, chop 10 L ++ r = L := by
    by_cases hs : L.getLast? = some 10
    · obtain ⟨p, rfl⟩ := List.getLast?_eq_some_iff.1 hs
      exact ⟨[10], by rw [chop_app]⟩
    · exact ⟨[], by rw [chop_not hs]; simp⟩
  have g1 := (g0.pre hp).far ((Upd.refl [] _).alloc (.cells #[.int .u8 13] 5 (0, 0))) (by simp; omega) (by simp)
  have q1 := cutSuffix_one (p2 := ⟨w.heap.size, 0, none⟩) 10 _ g0 (cell_one_new _ _ _ 0 _ rfl) rfl
  have q2 := cutSuffix_one (p2 := ⟨w.heap.size + 1, 0, none⟩) 13 _ g1 (by have := cell_one_new (w.alloc (.cells #[.int .u8 10] 5 (0, 0))) (.int .u8 13) 5 0 _ rfl; rw [World.size_alloc] at this; exact this) rfl
  have G0 := hid g0
  have G1 := hid g1
  clear g0 g1 h
  go_enter Tryf.func41, Tryf.ntmps41
  go_wp2_with fail
  go_fit q1
  rintro e w1 ⟨rfl, rfl⟩
  clear q1
  go_wp2_with fail
  go_fit q2
  rintro e w2 ⟨rfl, rfl⟩
  clear q2
  go_wp2_with fail
  go_ret
  exact ⟨rfl, ((Upd.refl [] w).alloc _).alloc _⟩

theorem cut_piece {w : World} {b o N c : Nat} {p r : List UInt8} {d : UInt8} (h : LineIn w b (.slice (some ⟨b, o, none⟩) N c) (p ++ d :: r)) (a' : Addr) (ha : p.length + 1 < c → a' = ⟨b, o + (p.length + 1), none⟩) :
    LineIn w b (.slice (some a') (N - (p.length + 1)) (c - (p.length + 1))) r := by
  obtain rfl := h.parts.1
  have := h.rest (p.length + 1) (by simp) a' (fun hc => by rw [ha hc, add_addr])
  simpa using this
theorem LineIn.at {w : World} {b n c : Nat} {a : Addr} {L : List UInt8} (h : LineIn w b (.slice (some a) n c) L) (h0 : L ≠ []) : ∃ o, a = ⟨b, o, none⟩ := by
  obtain ⟨_, _, _, h3⟩ := h.parts
  obtain ⟨o, ea, _⟩ := h3 (List.length_pos_iff.2 h0)
  exact ⟨o, ea⟩

set_option maxHeartbeats 400000 in
/-- bytes.Cut at a byte that stands in the line -/
theorem cut_hit {b c bk : Nat} {a : Addr} {p r : List UInt8} (d : UInt8) (w : World) (h : LineIn w b (.slice (some a) (p ++ d :: r).length c) (p ++ d :: r)) (hd : w.cell? ⟨bk, 0, none⟩ = some (.int .u8 (d.toNat : Int))) (hp : d ∉ p) :
    Calls Tryf.prog 52 #[.slice (some a) (p ++ d :: r).length c, .slice (some ⟨bk, 0, none⟩) 1 1] w fun e w' => ∃ a' n' c', e = .returned (.tuple #[.slice (some a) p.length c, .slice (some a') n' c', .bool true]) ∧ LineIn w b (.slice (some a') n' c') r ∧ ∃ n, w' = w.drewN n := by
  have q := Tryf.bytes_Index_one_at a (p ++ d :: r).length c bk 0 1 (nums (p ++ d :: r)) (d.toNat : Int) w (nums_length _) h.cells hd
  rw [bytesOf_nums', show ((d.toNat : Int).toNat.toUInt8) = d by simp, idx_hit p r d hp] at q
  obtain ⟨o, rfl⟩ := h.at (by simp)
  have h1 := h.parts.2.1
  have h2 := h.parts.2.2.1
  have e1 : (p ++ d :: r).length = p.length + 1 + r.length := by simp; omega
  have HH := hid h
  clear h
  generalize hN : (p ++ d :: r).length = N at *
  clear hN hd
  have b1 : (p.length : Int) + 1 ≤ N := by omega
  have b2 : (N : Int) ≤ c := by omega
  have b3 : (c : Int) ≤ 9223372036854775807 := by unfold maxLen at h2; omega
  clear e1
  go_enter Tryf.func52, Tryf.ntmps52
  go_wp2_with fail
  go_fit q
  rintro e w1 ⟨rfl, rfl⟩
  clear q
  go_wp2
  go_quiet (fail)
  go_wp2
  all_goals go_ret3
  · rename_i hc
    have := cut_piece HH.out ⟨b, o, none⟩ (fun h => by omega)
    rw [show c - (p.length + 1) = 0 by omega] at this
    exact ⟨_, _, _, rfl, this, _, rfl⟩
  · exact ⟨_, _, _, rfl, cut_piece HH.out _ (fun _ => rfl), _, rfl⟩

set_option maxHeartbeats 400000 in
/-- bytes.Cut at a byte that does not stand in the line -/
theorem cut_miss {b c bk : Nat} {a : Addr} {L : List UInt8} (d : UInt8) (w : World) (h : LineIn w b (.slice (some a) L.length c) L) (hd : w.cell? ⟨bk, 0, none⟩ = some (.int .u8 (d.toNat : Int))) (hp : d ∉ L) :
    Calls Tryf.prog 52 #[.slice (some a) L.length c, .slice (some ⟨bk, 0, none⟩) 1 1] w fun e w' => e = .returned (.tuple #[.slice (some a) L.length c, .slice none 0 0, .bool false]) ∧ w' = w := by
  have q := Tryf.bytes_Index_one_at a L.length c bk 0 1 (nums L) (d.toNat : Int) w (nums_length _) h.cells hd
  rw [bytesOf_nums', show ((d.toNat : Int).toNat.toUInt8) = d by simp, idx_miss L d hp] at q
  clear h hd
  go_enter Tryf.func52, Tryf.ntmps52
  go_wp2_with fail
  go_fit q
  rintro e w1 ⟨rfl, rfl⟩
  clear q
  go_wp2
  go_ret3
  exact ⟨rfl, rfl⟩

/-- bytes.IndexByte in a line -/
theorem idx_line_hit {b c : Nat} {a : Addr} {p r : List UInt8} (d : UInt8) (w : World) (h : LineIn w b (.slice (some a) (p ++ d :: r).length c) (p ++ d :: r)) (hp : d ∉ p) :
    Calls Tryf.prog 53 #[.slice (some a) (p ++ d :: r).length c, .int .u8 (d.toNat : Int)] w fun e w' => e = .returned (.int .i64 (p.length : Int)) ∧ w' = w := by
  have q := Tryf.bytes_IndexByte_at a (p ++ d :: r).length c (nums (p ++ d :: r)) (d.toNat : Int) w (nums_length _) h.cells
  rw [bytesOf_nums', show ((d.toNat : Int).toNat.toUInt8) = d by simp, idx_hit p r d hp] at q
  exact q
theorem idx_line_miss {b c : Nat} {a : Addr} {L : List UInt8} (d : UInt8) (w : World) (h : LineIn w b (.slice (some a) L.length c) L) (hp : d ∉ L) :
    Calls Tryf.prog 53 #[.slice (some a) L.length c, .int .u8 (d.toNat : Int)] w fun e w' => e = .returned (.int .i64 (-1)) ∧ w' = w := by
  have q := Tryf.bytes_IndexByte_at a L.length c (nums L) (d.toNat : Int) w (nums_length _) h.cells
  rw [bytesOf_nums', show ((d.toNat : Int).toNat.toUInt8) = d by simp, idx_miss L d hp] at q
  exact q

/-- append onto a row of the call's own, whatever is appended: where the new slice lies, and what stays -/
theorem wpList_app0 {P : Program} {w : World} {ops : Array Oper} {rest : List Oper} {o : Oper} {a : Act} {Q : Exit → Act → World → Prop} (hgd : o.guard = none) (s x : Operand) (t : TypeId)
    (ho : o.op = .call { callee := .builtin .append, args := #[s, x], argTypes := #[t, t] })
    (base : Nat) (e : TypeId) (i : TypeInfo) (z : Value) (size bytes : Nat) (ht : P.underlying t = some (.slice e)) (hi : P.info? e = some i) (hz : i.zero = some z)
    (hsize : i.size = size) (hby : i.bytes = bytes) (hzs : z.cells.size = size) (hsz : 0 < size)
    (v : Value) (n : Nat) (xs : List Value) (hs : a.eval s = v) (hown : w.ownsRow base e size v n xs)
    (ad : Addr) (m c : Nat) (news : List Value) (hx : a.eval x = .slice (some ad) m c) (hl : news.length = m * size) (hnews : ∀ j u, news[j]? = some u → w.cell? (ad.add j) = some u) (h1 : ∀ u ∈ news, u.oneCell' = true)
    (h63 : n + m ≤ maxLen) (hbytes : (n + m) * bytes ≤ 140737488355328) (hbase : base ≤ w.heap.size)
    (h : ∀ p cap w', w'.ownsRow base e size (.slice p (n + m) cap) (n + m) (xs ++ news) → Upd (vb v) w w' → (∀ k, k ∈ vb (.slice p (n + m) cap) → k ∈ vb v ∨ w.heap.size ≤ k) → wpList P ops Q rest (a.put o.dst (.slice p (n + m) cap)) w') : wpList P ops Q (o :: rest) a w := by
  refine wpList_plain hgd fun K hK => ?_
  obtain ⟨v', w', hr, h2, h3, _, h5⟩ := run_append_own_at (P := P) w base t o.type e i z size bytes ht hi hz hsize hby hzs hsz v n xs hown ad m c news hl hnews h1 h63 hbytes hbase
  obtain ⟨p, cap, rfl⟩ : ∃ p c, v' = .slice p (n + m) c := by
    rcases h2.2 with ⟨rfl, hnm⟩ | ⟨g, cap, cur, rfl, _⟩
    · exact ⟨none, 0, by rw [hnm]⟩
    · exact ⟨_, cap, rfl⟩
  unfold Oper.wp execOp
  simp only [ho, resolve, invoke, builtin, Sem.run_bind, Sem.run_pure, Result.andThen_ok, List.map_toArray, List.map_cons, List.map_nil, hs, hx, hr]
  refine hK _ _ (h p cap w' h2 (grown_upd h3 (fun k hk => (ownBlock_vb v k).1 hk)) (fun k hk => ?_))
  have hk' := (ownBlock_vb _ k).2 hk
  rcases h5 with h5 | h5
  · exact .inl ((ownBlock_vb v k).1 (by rw [← h5]; exact hk'))
  · right
    rw [hk'] at h5
    have : k = w.heap.size := by simpa using h5
    omega
end Go.Proofs.Qxb6613956aFmt.W
