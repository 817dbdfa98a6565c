import Derived.Test.Qxb6613956aFmtSlice
import Derived.LaidEql
namespace Go.Proofs.Qxb6613956aFmt.W
open Go.RowKit

theorem comp129 : (Tryf.prog.info? 129).map (·.comparable) = some true := by kernel_rfl
theorem size131 : (Tryf.prog.info? 131).map (·.size) = some 1 := by kernel_rfl

/-- what is known of the sentinels: io.EOF and bufio.ErrBufferFull, two errors, below block B -/
structure Errs (w : World) (B : Nat) (ea fa : Addr) : Prop where
  e : w.cell? ⟨0, 0, none⟩ = some (errV ea)
  f : w.cell? ⟨2, 0, none⟩ = some (errV fa)
  re : ∃ c t, w.heap[ea.block]? = some (.cells c t (0, 0))
  rf : ∃ c t, w.heap[fa.block]? = some (.cells c t (0, 0))
  ne : ea ≠ fa
  be : ea.block < B
  bf : fa.block < B
  b4 : 4 < B
  sz : B ≤ w.heap.size

theorem Errs.upd {w w' : World} {B : Nat} {ea fa : Addr} {S : List Nat} (h : Errs w B ea fa) (hu : Upd S w w') (hS : ∀ k, k ∈ S → B ≤ k) : Errs w' B ea fa := by
  have b4 := h.b4
  have hz := h.sz
  have hb : ∀ k, k < B → w'.heap[k]? = w.heap[k]? := fun k hk => hu.block k (by omega) (fun hm => by have := hS k hm; omega)
  obtain ⟨c1, t1, h1⟩ := h.re
  obtain ⟨c2, t2, h2⟩ := h.rf
  exact { h with
    e := (World.cell?_of_block (w := w) (hb 0 (by omega))).trans h.e
    f := (World.cell?_of_block (w := w) (hb 2 (by omega))).trans h.f
    re := ⟨c1, t1, (hb _ h.be).trans h1⟩
    rf := ⟨c2, t2, (hb _ h.bf).trans h2⟩
    sz := Nat.le_trans hz hu.size }

theorem eql_same (a : Addr) (w : World) : (binOp .eql 55 (errV a) (errV a)).run Tryf.prog w = .ok (.bool true) w := by
  obtain ⟨i, hi, hc⟩ := Option.map_eq_some_iff.1 comp129
  obtain ⟨j, hj, _⟩ := Option.map_eq_some_iff.1 size131
  exact run_eql_iface_ptr_same w a Tryf.underlying55 Tryf.underlying129 hi hc hj

theorem eql_other {w : World} {a b : Addr} (hne : a ≠ b) (ha : ∃ c t, w.heap[a.block]? = some (.cells c t (0, 0))) (hb : ∃ c t, w.heap[b.block]? = some (.cells c t (0, 0))) :
    (binOp .eql 55 (errV a) (errV b)).run Tryf.prog w = .ok (.bool false) w := by
  obtain ⟨i, hi, hc⟩ := Option.map_eq_some_iff.1 comp129
  obtain ⟨j, hj, hs⟩ := Option.map_eq_some_iff.1 size131
  obtain ⟨c1, t1, h1⟩ := ha
  obtain ⟨c2, t2, h2⟩ := hb
  exact run_eql_iface_ptr_other w Tryf.underlying55 Tryf.underlying129 hi hc hj (by rw [hs]; decide) hne h1 h2

theorem eql_nil (a : Addr) (w : World) : (binOp .eql 55 .nilIface (errV a)).run Tryf.prog w = .ok (.bool false) w := run_eql_iface_nil_left w 129 _ Tryf.underlying55

theorem neq_same (a : Addr) (w : World) : (binOp .neq 55 (errV a) (errV a)).run Tryf.prog w = .ok (.bool false) w := by
  obtain ⟨i, hi, hc⟩ := Option.map_eq_some_iff.1 comp129
  obtain ⟨j, hj, _⟩ := Option.map_eq_some_iff.1 size131
  simp only [binOp]
  simp [Op.equal, Op.maxDepth, run_equalIn_iface_ptr_same w 9998 a Tryf.underlying55 Tryf.underlying129 hi hc hj]

/-! ### a line of the text -/
def fl : List UInt8 → List UInt8
  | [] => []
  | c :: t => if c = 10 then [c] else c :: fl t

theorem fl_append (l t : List UInt8) (h : (10 : UInt8) ∉ l) : fl (l ++ t) = l ++ fl t := by
  induction l with
  | nil => rfl
  | cons c l ih =>
    simp only [List.mem_cons, not_or] at h
    rw [List.cons_append, fl, if_neg (fun e => h.1 e.symm), ih h.2]; rfl
theorem fl_none (l : List UInt8) (h : (10 : UInt8) ∉ l) : fl l = l := by
  have := fl_append l [] h
  simpa [fl] using this
theorem fl_hit (l t : List UInt8) (h : (10 : UInt8) ∉ l) : fl (l ++ [10] ++ t) = l ++ [10] := by
  rw [List.append_assoc, fl_append l _ h]; simp [fl]
theorem fl_le (l : List UInt8) : (fl l).length ≤ l.length := by
  induction l with
  | nil => simp [fl]
  | cons c l ih => rw [fl]; split <;> simp; omega
theorem fl_take (l : List UInt8) : l.take (fl l).length = fl l := by
  induction l with
  | nil => simp [fl]
  | cons c l ih =>
    rw [fl]; split
    · simp
    · simp [ih]
theorem fl_pos (l : List UInt8) (h : l ≠ []) : 0 < (fl l).length := by
  cases l with
  | nil => exact absurd rfl h
  | cons c l => rw [fl]; split <;> simp

theorem fl_case {L T l : List UInt8} (h1 : L = l ++ [10]) (h2 : (10 : UInt8) ∉ l) (h3 : L = T.take L.length) : L = fl T := by
  have e := List.take_append_drop L.length T
  rw [← h3] at e
  have := fl_hit l (T.drop L.length) h2
  rw [← h1, e] at this
  exact this.symm

end Go.Proofs.Qxb6613956aFmt.W
