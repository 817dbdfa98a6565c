import Derived.Test.Qxb6613956aFmtErrs
import Derived.Stop.LaidErr
import Derived.LaidMore
import Derived.LaidHandle
import Derived.MakeChecks
namespace Go.Proofs.Qxb6613956aFmt.W
open Go.RowKit Go.ChangeShapes

/-- a listed sentinel, with the row in which it lies -/
theorem laid_sentinel2 {P : Program} {n nm : String} {text : List UInt8} {r : List (String × DataW Unit)} {W : World} {g : Nat} {ti tp te ts : TypeId} {ms : Array (String × TypeId)} {f : Field}
    (h : laidMet P ((n, .iface nm (.ptr (.agg [.lit (.string text)]))) :: r) W)
    (hg : P.globalNamed n = some g) (ht : (P.globals[g]?).map (·.type) = some ti) (hi : P.underlying ti = some (.interface ms)) (hrow : ∀ u, P.typeName? 3 u = some nm → u = tp)
    (hp : P.underlying tp = some (.pointer te)) (he : P.underlying te = some (.struct #[f])) (hft : f.type = ts) (hfo : f.offset = 0) (hs : P.underlying ts = some .string) (hc : P.cellsOf te = 1) (hcs : P.cellsOf ts = 1) :
    ∃ (a : Addr) (s : ByteArray), W.var? P n = some #[.iface tp (.pointer (some a))] ∧ W.cell? a = some (.string s) ∧ s.data.toList = text ∧ ∃ c t, W.heap[a.block]? = some (.cells c t (0, 0)) := by
  obtain ⟨ps, ⟨g0, t0, cs0, f0, p0, q0, hg0, ht0, hv0, hd0, _, e0⟩, _, hrows⟩ := h
  obtain rfl := Option.some.inj (hg.symm.trans hg0)
  obtain rfl := Option.some.inj (ht.symm.trans ht0)
  subst e0
  obtain ⟨l0⟩ := cs0
  have ok0 : ∀ u v, l0 = [.iface u v] → Value.okWide P W .any 0 u v := fun u v e => by
    subst e
    exact (hrows g 0 (by simp [MemPlace.row])).2 u v (by simpa using World.var?_cell hg0 hv0 0)
  obtain ⟨a0, s0, rfl, hc0, hs0, hz0, rfl⟩ := errorString_of_trod hi hrow hp he hft hfo hs hc hcs hd0 ok0
  exact ⟨a0, s0, hv0, hc0, hs0, (hrows a0.block a0.off (by simp [MemPlace.row])).1⟩

theorem gEOF : Tryf.prog.globalNamed "io.EOF" = some 0 := by kernel_rfl
theorem gEOFType : (Tryf.prog.globals[0]?).map (·.type) = some 55 := by kernel_rfl
theorem gFull : Tryf.prog.globalNamed "bufio.ErrBufferFull" = some 2 := by kernel_rfl
theorem gFullType : (Tryf.prog.globals[2]?).map (·.type) = some 55 := by kernel_rfl
theorem cells131 : Tryf.prog.cellsOf 131 = 1 := by kernel_rfl
theorem cells9 : Tryf.prog.cellsOf 9 = 1 := by kernel_rfl

/-- the name of the sentinels' dynamic type: a star, and errors.errorString -/
def nmE : String := String.singleton (Char.ofNat 42) ++ "errors.errorString"
theorem laidE (H : Type) : (Rows.laid_io_EOF (H := H)) = .iface nmE (.ptr (.agg [.lit (.string [69, 79, 70])])) := by kernel_rfl
theorem laidF (H : Type) : (Rows.laid_bufio_ErrBufferFull (H := H)) = .iface nmE (.ptr (.agg [.lit (.string [98, 117, 102, 105, 111, 58, 32, 98, 117, 102, 102, 101, 114, 32, 102, 117, 108, 108])])) := by kernel_rfl
theorem row129 (u : TypeId) (h : Tryf.prog.typeName? 3 u = some nmE) : u = 129 :=
  typeName_ptr_named (nm := "errors.errorString") (by kernel_rfl) (by kernel_rfl) (by decide) u (h.trans (by kernel_rfl))

/-- the four listed variables of the rows over readLine and Read -/
def laid4 : List (String × DataW Unit) := [("io.EOF", Rows.laid_io_EOF), ("io.ErrNoProgress", Rows.laid_io_ErrNoProgress), ("bufio.ErrBufferFull", Rows.laid_bufio_ErrBufferFull), ("bufio.errNegativeRead", Rows.laid_bufio_errNegativeRead)]

theorem laid4_plain : (laid4.all fun x => x.2.handleName?.isNone) = true := by kernel_rfl

theorem gNo : Tryf.prog.globalNamed "io.ErrNoProgress" = some 4 := by kernel_rfl

theorem var_lt {P : Program} {W : World} {n : String} {g : Nat} {cs : Array Value} (hg : P.globalNamed n = some g) (h : W.var? P n = some cs) : g < W.heap.size := by
  unfold World.var? at h
  rw [hg] at h
  rcases Nat.lt_or_ge g W.heap.size with h' | h'
  · exact h'
  · simp [Array.getElem?_eq_none h'] at h

theorem size_of_laid {W : World} (h : laidMet Tryf.prog laid4 W) : 4 < W.heap.size := by
  have h3 : laidMet Tryf.prog laid4.tail W := laidMet.tail (x := laid4.head!) h
  obtain ⟨ps, ⟨g0, t0, cs0, f0, p0, q0, hg0, ht0, hv0, _⟩, _⟩ := h3
  exact var_lt gNo hv0

/-- WHAT THE ROWS' CONDITION GIVES THE WALKS -/
theorem errs_of_laid {W : World} (h : laidMetH Tryf.prog laid4 W) : ∃ ea fa, Errs W W.heap.size ea fa := by
  rw [MakeChecks.laidMetH_plain _ _ _ laid4_plain] at h
  have hsz := size_of_laid h
  have h1 : laidMet Tryf.prog (("io.EOF", DataW.iface nmE (.ptr (.agg [.lit (.string [69, 79, 70])]))) :: laid4.tail) W := by
    have e : laid4 = ("io.EOF", DataW.iface nmE (.ptr (.agg [.lit (.string [69, 79, 70])]))) :: laid4.tail := by
      unfold laid4; rw [laidE]; rfl
    rw [e] at h; exact h
  have h2 : laidMet Tryf.prog (("bufio.ErrBufferFull", DataW.iface nmE (.ptr (.agg [.lit (.string [98, 117, 102, 105, 111, 58, 32, 98, 117, 102, 102, 101, 114, 32, 102, 117, 108, 108])]))) :: laid4.tail.tail.tail) W := by
    have h3 : laidMet Tryf.prog laid4.tail.tail W := laidMet.tail (x := laid4.tail.head!) (laidMet.tail (x := laid4.head!) h)
    have e : laid4.tail.tail = ("bufio.ErrBufferFull", DataW.iface nmE (.ptr (.agg [.lit (.string [98, 117, 102, 105, 111, 58, 32, 98, 117, 102, 102, 101, 114, 32, 102, 117, 108, 108])]))) :: laid4.tail.tail.tail := by
      unfold laid4; rw [laidF]; rfl
    rw [e] at h3; exact h3
  obtain ⟨ea, s0, hv0, hc0, hs0, hr0⟩ := laid_sentinel2 h1 gEOF gEOFType Tryf.underlying55 row129 Tryf.underlying129 Tryf.underlying131 rfl rfl Tryf.underlying9 cells131 cells9
  obtain ⟨fa, s1, hv1, hc1, hs1, hr1⟩ := laid_sentinel2 h2 gFull gFullType Tryf.underlying55 row129 Tryf.underlying129 Tryf.underlying131 rfl rfl Tryf.underlying9 cells131 cells9
  refine ⟨ea, fa, { e := by simpa using World.var?_cell gEOF hv0 0, f := by simpa using World.var?_cell gFull hv1 0, re := hr0, rf := hr1, ne := ?_, be := ?_, bf := ?_, b4 := hsz, sz := Nat.le_refl _ }⟩
  · rintro rfl
    rw [hc0] at hc1
    have : s0 = s1 := by simpa using hc1
    rw [this, hs1] at hs0
    simp at hs0
  · obtain ⟨c, t, hh⟩ := hr0; exact lt_of_block hh
  · obtain ⟨c, t, hh⟩ := hr1; exact lt_of_block hh
end Go.Proofs.Qxb6613956aFmt.W
