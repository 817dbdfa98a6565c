import Derived.Test.Qxb6613956aFmtFill3
import Derived.Test.Qxb6613956aFmtShelf
namespace Go.Proofs.Qxb6613956aFmt.W
open Go.RowKit

theorem pend_over0 (buf : List UInt8) (r wr n : Nat) (hn : r + n = wr) (hl : wr ≤ buf.length) : pend (over buf 0 (pend buf r wr)) 0 n = pend buf r wr := by
  have h := pend_length buf r wr hl
  unfold pend over at *
  simp only [List.take_zero, List.nil_append, List.drop_zero]
  rw [List.take_append_of_le_length (by omega), List.take_of_length_le (by omega)]

theorem pend_over_app (buf l : List UInt8) (n : Nat) (hl : n + l.length ≤ buf.length) : pend (over buf n l) 0 (n + l.length) = pend buf 0 n ++ l := by
  unfold pend over
  simp only [List.drop_zero]
  have e : (buf.take n).length = n := by simp; omega
  rw [← List.append_assoc, List.take_append_of_le_length (by rw [List.length_append, e]; omega), List.take_of_length_le (by rw [List.length_append, e]; omega)]

/-- fill, whole: what is pending stays; the text's next bytes come behind it, or the text has ended. -/
theorem fill_any (bb bf bs r wr i : Nat) (s : ByteArray) (buf : List UInt8) (ev : Value) (ea : Addr) (lb lr pr : Int) (w : World) (hst : St w bb bf bs s r wr i buf ev lb lr pr) (hfull : wr - r < 4096)
    (he : w.cell? ⟨0, 0, none⟩ = some (errV ea)) (hz : 0 ≠ bb) (hzf : 0 ≠ bf) :
    Calls Tryf.prog 59 #[.pointer (some ⟨bb, 0, none⟩)] w fun e w' => e = .returned (.tuple #[]) ∧ Upd [bb, bf, bs] w w' ∧ ∃ buf' pr',
      (i = s.size ∧ St w' bb bf bs s 0 (wr - r) i buf' (errV ea) lb lr pr' ∧ pend buf' 0 (wr - r) = pend buf r wr) ∨
      (∃ m, 0 < m ∧ i + m ≤ s.size ∧ St w' bb bf bs s 0 (wr - r + m) (i + m) buf' ev lb lr pr' ∧ pend buf' 0 (wr - r + m) = pend buf r wr ++ (s.data.toList.drop i).take m) := by
  have hw4 := hst.w4
  have hlen := hst.len
  have hrw := hst.rw
  by_cases hi : i = s.size
  · subst hi
    by_cases hr : r = 0
    · subst hr
      refine (fill_eof0 bb bf bs wr s buf ev ea lb lr pr w hst (by omega) he).mono ?_
      rintro e w' ⟨rfl, h1, h2⟩
      exact ⟨rfl, h2, buf, pr, .inl ⟨rfl, h1, rfl⟩⟩
    · refine (fill_eof1 bb bf bs r wr (wr - r) s buf ev ea lb lr pr w hst (by omega) (by omega) he hz hzf).mono ?_
      rintro e w' ⟨rfl, h1, h2⟩
      exact ⟨rfl, h2, _, pr, .inl ⟨rfl, h1, pend_over0 buf r wr (wr - r) (by omega) (by omega)⟩⟩
  · have hi' : i < s.size := by have := hst.is; omega
    have hll : ∀ m, min (s.size - i) (4096 - (wr - r)) = m → ((s.data.toList.drop i).take m).length = m := fun m hm => by
      rw [List.length_take, List.length_drop, ← Lib.size_eq]; omega
    by_cases hr : r = 0
    · subst hr
      refine (fill_some0 bb bf bs wr i _ s buf ev lb lr pr w hst (by omega) hi' rfl).mono ?_
      rintro e w' ⟨rfl, h1, h2⟩
      have hl : ((s.data.toList.drop i).take (min (s.size - i) (4096 - wr))).length = min (s.size - i) (4096 - wr) := hll _ rfl
      refine ⟨rfl, h2, _, _, .inr ⟨min (s.size - i) (4096 - wr), by omega, by omega, h1, ?_⟩⟩
      show pend _ 0 (wr + _) = _
      have := pend_over_app buf ((s.data.toList.drop i).take (min (s.size - i) (4096 - wr))) wr (by omega)
      rw [hl] at this; exact this
    · refine (fill_some1 bb bf bs r wr (wr - r) i _ s buf ev lb lr pr w hst (by omega) (by omega) hi' rfl).mono ?_
      rintro e w' ⟨rfl, h1, h2⟩
      have hl := hll _ rfl
      refine ⟨rfl, h2, _, _, .inr ⟨_, by omega, by omega, h1, ?_⟩⟩
      have h3 := pend_length buf r wr (by omega)
      have hlo : (over buf 0 (pend buf r wr)).length = buf.length := over_length _ _ _ (by omega)
      have := pend_over_app (over buf 0 (pend buf r wr)) ((s.data.toList.drop i).take (min (s.size - i) (4096 - (wr - r)))) (wr - r) (by omega)
      rw [hl] at this
      rw [this, pend_over0 buf r wr (wr - r) (by omega) (by omega)]

theorem pend_split (buf : List UInt8) (r q wi : Nat) (h1 : r ≤ q) (h2 : q ≤ wi) (h3 : wi ≤ buf.length) : pend buf r wi = pend buf r q ++ pend buf q wi := by
  apply List.ext_getElem?
  intro j
  have l1 := pend_length buf r q (by omega)
  have l2 := pend_length buf q wi (by omega)
  rw [List.getElem?_append, l1]
  unfold pend at *
  simp only [List.getElem?_drop, List.getElem?_take]
  by_cases hj : j < q - r
  · rw [if_pos hj, if_pos (by omega), if_pos (by omega)]
  · rw [if_neg hj, show q + (j - (q - r)) = r + j by omega]

theorem no_split (buf : List UInt8) (r q wi : Nat) (h1 : r ≤ q) (h2 : q ≤ wi) (h3 : wi ≤ buf.length) (a : (10 : UInt8) ∉ pend buf r q) (b : (10 : UInt8) ∉ pend buf q wi) : (10 : UInt8) ∉ pend buf r wi := by
  rw [pend_split buf r q wi h1 h2 h3]; simp [a, b]

theorem nums_getD (l : List UInt8) (i : Nat) (h : i < l.length) : (l.map fun b => (b.toNat : Int)).getD i 0 = (l[i].toNat : Int) := by
  simp [List.getD, h]
theorem bytesOf_nums (l : List UInt8) : Lib.bytesOf (l.map fun b => (b.toNat : Int)) = l := by
  unfold Lib.bytesOf
  rw [List.map_map]
  conv => rhs; rw [← List.map_id l]
  apply List.map_congr_left
  intro b _
  simp

/-- bytes.IndexByte(b, line feed) -/
theorem ib_any (sa : Addr) (l : List UInt8) (n c : Nat) (cv : UInt8) (w : World) (hn : l.length = n) (hc : ∀ j (h : j < l.length), w.cell? (sa.add j) = some (.int .u8 (l[j].toNat : Int))) :
    Calls Tryf.prog 53 #[.slice (some sa) n c, .int .u8 (cv.toNat : Int)] w fun e w' => e = .returned (.int .i64 (Lib.indexByte l cv)) ∧ w' = w := by
  have := Tryf.bytes_IndexByte_at sa n c (l.map fun b => (b.toNat : Int)) (cv.toNat : Int) w (by simpa using hn) (fun i hi => by rw [hc i (by omega), nums_getD l i (by omega)])
  rw [bytesOf_nums] at this
  simpa using this
theorem ib10 (sa : Addr) (l : List UInt8) (n c : Nat) (w : World) (hn : l.length = n) (hc : ∀ j (h : j < l.length), w.cell? (sa.add j) = some (.int .u8 (l[j].toNat : Int))) :
    Calls Tryf.prog 53 #[.slice (some sa) n c, .int .u8 10] w fun e w' => e = .returned (.int .i64 (Lib.indexByte l 10)) ∧ w' = w := ib_any sa l n c 10 w hn hc

theorem ix_cases (l : List UInt8) (c : UInt8) : (Lib.indexByte l c = -1 ∧ c ∉ l) ∨ ∃ j : Nat, Lib.indexByte l c = (j : Int) ∧ ∃ h : j < l.length, l[j] = c ∧ c ∉ l.take j := by
  induction l with
  | nil => exact .inl ⟨rfl, by simp⟩
  | cons b l ih =>
    by_cases hb : b = c
    · exact .inr ⟨0, by simp [Lib.indexByte, hb], by simp, by simp [hb], by simp⟩
    · have hb' : (b == c) = false := by simp [hb]
      rcases ih with ⟨h1, h2⟩ | ⟨j, h1, h2, h3, h4⟩
      · exact .inl ⟨by simp [Lib.indexByte, hb', h1], by simp only [List.mem_cons, not_or]; exact ⟨fun e => hb e.symm, h2⟩⟩
      · refine .inr ⟨j + 1, ?_, by simp; omega, by simpa using h3, ?_⟩
        · have : ((j : Int) == -1) = false := by rw [beq_eq_false_iff_ne]; omega
          simp [Lib.indexByte, hb', h1, this]
        · rw [List.take_succ_cons]
          simp only [List.mem_cons, not_or]; exact ⟨fun e => hb e.symm, h4⟩
end Go.Proofs.Qxb6613956aFmt.W
