/-
  The state of a csv.Reader between two calls of Read, with its text, its ends and its record.
-/
import Derived.Test.Qxb6613956aFmtAll
import Derived.Test.Qxb6613956aFmtGram
namespace Go.Proofs.Qxb6613956aFmt.W
open Go.RowKit

def intsV (l : List Nat) : List Value := l.map fun (n : Nat) => .int .i64 (n : Int)

/-- T: the text that is still to be read; tx, en, rn: what text, ends and record hold -/
structure RD (w : World) (B bc bb bf bs : Nat) (s : ByteArray) (T : List UInt8) (ln st fd : Int) (long text ends rec : Value) (tx : List UInt8) (en : List Nat) (rn : List (List UInt8)) : Prop where
  cr : CR w B bc bb bf bs s T ln st fd long text ends rec
  ot : w.ownsRow B 5 1 text tx.length (Lib.byteCells tx)
  oe : w.ownsRow B 3 1 ends en.length (intsV en)
  ro : w.ownsRow B 9 1 rec rn.length (rn.map strV)
  dt : ∀ k, k ∈ vb text → k ∉ [bc, bb, bf, bs] ++ vb long
  de : ∀ k, k ∈ vb ends → k ∉ [bc, bb, bf, bs] ++ vb long ∧ k ∉ vb text
  dr : ∀ k, k ∈ vb rec → k ∉ [bc, bb, bf, bs] ++ vb long ∧ k ∉ vb text ∧ k ∉ vb ends
  l0 : 0 ≤ ln
  l1 : ln + T.length ≤ s.size
  lc : T ≠ [] → ln + (T.count 10 : Nat) = (s.data.toList.count 10 : Nat)

section
variable {w w' w2 : World} {B bc bb bf bs : Nat} {s : ByteArray} {T : List UInt8} {ln st fd : Int} {long text ends rec : Value} {tx : List UInt8} {en : List Nat} {rn : List (List UInt8)}

theorem CR.far {S : List Nat} (h : CR w B bc bb bf bs s T ln st fd long text ends rec) (hu : Upd S w w') (hS : ∀ k, k ∈ S → k ∉ [bc, bb, bf, bs] ++ vb long) : CR w' B bc bb bf bs s T ln st fd long text ends rec := by
  have hl := h.lts
  have no : ∀ k, k ∈ [bc, bb, bf, bs] ++ vb long → k ∉ S := fun k hk hm => hS k hm hk
  exact h.step hu (no bc (by simp)) (fun k hk => no k (by simp [hk])) (h.rs.upd (hu.block bb hl.2.1 (no bb (by simp))) (hu.block bf hl.2.2.1 (no bf (by simp))) (hu.block bs hl.2.2.2 (no bs (by simp))))

theorem CR.set5 (h : CR w B bc bb bf bs s T ln st fd long text ends rec) (v : Value) : CR (w.setCell ⟨bc, 5, none⟩ v) B bc bb bf bs s T ln st fd long v ends rec := by
  obtain ⟨n, xs, ho⟩ := h.lg
  exact { h with
    hc := Joins.block_setCell (i := 5) h.hc _
    rs := h.rs.upd (out1 h.cb) (out1 h.cf) (out1 h.cs)
    lg := ⟨n, xs, owns_upd ho fun k hk => heap_set_other _ (by exact (h.dl k hk).1)⟩ }
theorem CR.set6 (h : CR w B bc bb bf bs s T ln st fd long text ends rec) (v : Value) : CR (w.setCell ⟨bc, 6, none⟩ v) B bc bb bf bs s T ln st fd long text v rec := by
  obtain ⟨n, xs, ho⟩ := h.lg
  exact { h with
    hc := Joins.block_setCell (i := 6) h.hc _
    rs := h.rs.upd (out1 h.cb) (out1 h.cf) (out1 h.cs)
    lg := ⟨n, xs, owns_upd ho fun k hk => heap_set_other _ (by exact (h.dl k hk).1)⟩ }
theorem CR.set7 (h : CR w B bc bb bf bs s T ln st fd long text ends rec) (v : Value) : CR (w.setCell ⟨bc, 7, none⟩ v) B bc bb bf bs s T ln st fd long text ends v := by
  obtain ⟨n, xs, ho⟩ := h.lg
  exact { h with
    hc := Joins.block_setCell (i := 7) h.hc _
    rs := h.rs.upd (out1 h.cb) (out1 h.cf) (out1 h.cs)
    lg := ⟨n, xs, owns_upd ho fun k hk => heap_set_other _ (by exact (h.dl k hk).1)⟩ }
theorem CR.set2 (h : CR w B bc bb bf bs s T ln st fd long text ends rec) (x : Int) : CR (w.setCell ⟨bc, 2, none⟩ (.int .i64 x)) B bc bb bf bs s T ln x fd long text ends rec := by
  obtain ⟨n, xs, ho⟩ := h.lg
  exact { h with
    hc := Joins.block_setCell (i := 2) h.hc _
    rs := h.rs.upd (out1 h.cb) (out1 h.cf) (out1 h.cs)
    lg := ⟨n, xs, owns_upd ho fun k hk => heap_set_other _ (by exact (h.dl k hk).1)⟩ }
theorem CR.set3 (h : CR w B bc bb bf bs s T ln st fd long text ends rec) (x : Int) : CR (w.setCell ⟨bc, 3, none⟩ (.int .i64 x)) B bc bb bf bs s T ln st x long text ends rec := by
  obtain ⟨n, xs, ho⟩ := h.lg
  exact { h with
    hc := Joins.block_setCell (i := 3) h.hc _
    rs := h.rs.upd (out1 h.cb) (out1 h.cf) (out1 h.cs)
    lg := ⟨n, xs, owns_upd ho fun k hk => heap_set_other _ (by exact (h.dl k hk).1)⟩ }

theorem not_bc {k : Nat} (h : k ∉ [bc, bb, bf, bs] ++ vb long) : k ≠ bc := fun e => h (by simp [e])

theorem CR.inlt (h : CR w B bc bb bf bs s T ln st fd long text ends rec) (k : Nat) (hk : k ∈ [bc, bb, bf, bs] ++ vb long) : k < w.heap.size := by
  have hl := h.lts
  obtain ⟨n, xs, ho⟩ := h.lg
  rcases List.mem_append.1 hk with hk | hk
  · simp at hk; omega
  · exact (owns_lt ho k hk).1

theorem RD.set5 (h : RD w B bc bb bf bs s T ln st fd long text ends rec tx en rn) {v : Value} {tx' : List UInt8} (hu : Upd (vb text) w w2) (ho : w2.ownsRow B 5 1 v tx'.length (Lib.byteCells tx')) (hg : ∀ k, k ∈ vb v → k ∈ vb text ∨ w.heap.size ≤ k) :
    RD (w2.setCell ⟨bc, 5, none⟩ v) B bc bb bf bs s T ln st fd long v ends rec tx' en rn := by
  have dt2 : ∀ k, k ∈ vb v → k ∉ [bc, bb, bf, bs] ++ vb long := fun k hk => by
    rcases hg k hk with h1 | h1
    · exact h.dt k h1
    · intro hm; have := h.cr.inlt k hm; omega
  exact { h with
    cr := (h.cr.far hu h.dt).set5 v
    ot := owns_upd ho fun k hk => heap_set_other _ (by exact not_bc (dt2 k hk))
    oe := owns_upd h.oe fun k hk => (heap_set_other _ (by exact not_bc (h.de k hk).1)).trans (hu.block k (owns_lt h.oe k hk).1 (h.de k hk).2)
    ro := owns_upd h.ro fun k hk => (heap_set_other _ (by exact not_bc (h.dr k hk).1)).trans (hu.block k (owns_lt h.ro k hk).1 (h.dr k hk).2.1)
    dt := dt2
    de := fun k hk => ⟨(h.de k hk).1, fun hm => by
      rcases hg k hm with h1 | h1
      · exact (h.de k hk).2 h1
      · have := (owns_lt h.oe k hk).1; omega⟩
    dr := fun k hk => ⟨(h.dr k hk).1, fun hm => by
      rcases hg k hm with h1 | h1
      · exact (h.dr k hk).2.1 h1
      · have := (owns_lt h.ro k hk).1; omega, (h.dr k hk).2.2⟩ }

theorem RD.set6 (h : RD w B bc bb bf bs s T ln st fd long text ends rec tx en rn) {v : Value} {en' : List Nat} (hu : Upd (vb ends) w w2) (ho : w2.ownsRow B 3 1 v en'.length (intsV en')) (hg : ∀ k, k ∈ vb v → k ∈ vb ends ∨ w.heap.size ≤ k) :
    RD (w2.setCell ⟨bc, 6, none⟩ v) B bc bb bf bs s T ln st fd long text v rec tx en' rn := by
  have de2 : ∀ k, k ∈ vb v → k ∉ [bc, bb, bf, bs] ++ vb long ∧ k ∉ vb text := fun k hk => by
    rcases hg k hk with h1 | h1
    · exact h.de k h1
    · exact ⟨fun hm => by have := h.cr.inlt k hm; omega, fun hm => by have := (owns_lt h.ot k hm).1; omega⟩
  exact { h with
    cr := (h.cr.far hu (fun k hk => (h.de k hk).1)).set6 v
    ot := owns_upd h.ot fun k hk => (heap_set_other _ (by exact not_bc (h.dt k hk))).trans (hu.block k (owns_lt h.ot k hk).1 (fun hm => (h.de k hm).2 hk))
    oe := owns_upd ho fun k hk => heap_set_other _ (by exact not_bc (de2 k hk).1)
    ro := owns_upd h.ro fun k hk => (heap_set_other _ (by exact not_bc (h.dr k hk).1)).trans (hu.block k (owns_lt h.ro k hk).1 (h.dr k hk).2.2)
    de := de2
    dr := fun k hk => ⟨(h.dr k hk).1, (h.dr k hk).2.1, fun hm => by
      rcases hg k hm with h1 | h1
      · exact (h.dr k hk).2.2 h1
      · have := (owns_lt h.ro k hk).1; omega⟩ }

theorem RD.set7 (h : RD w B bc bb bf bs s T ln st fd long text ends rec tx en rn) {v : Value} {rn' : List (List UInt8)} (hu : Upd (vb rec) w w2) (ho : w2.ownsRow B 9 1 v rn'.length (rn'.map strV)) (hg : ∀ k, k ∈ vb v → k ∈ vb rec ∨ w.heap.size ≤ k) :
    RD (w2.setCell ⟨bc, 7, none⟩ v) B bc bb bf bs s T ln st fd long text ends v tx en rn' := by
  have dr2 : ∀ k, k ∈ vb v → k ∉ [bc, bb, bf, bs] ++ vb long ∧ k ∉ vb text ∧ k ∉ vb ends := fun k hk => by
    rcases hg k hk with h1 | h1
    · exact h.dr k h1
    · exact ⟨fun hm => by have := h.cr.inlt k hm; omega, fun hm => by have := (owns_lt h.ot k hm).1; omega, fun hm => by have := (owns_lt h.oe k hm).1; omega⟩
  exact { h with
    cr := (h.cr.far hu (fun k hk => (h.dr k hk).1)).set7 v
    ot := owns_upd h.ot fun k hk => (heap_set_other _ (by exact not_bc (h.dt k hk))).trans (hu.block k (owns_lt h.ot k hk).1 (fun hm => (h.dr k hm).2.1 hk))
    oe := owns_upd h.oe fun k hk => (heap_set_other _ (by exact not_bc (h.de k hk).1)).trans (hu.block k (owns_lt h.oe k hk).1 (fun hm => (h.dr k hm).2.2 hk))
    ro := owns_upd ho fun k hk => heap_set_other _ (by exact not_bc (dr2 k hk).1)
    dr := dr2 }

theorem RD.set2 (h : RD w B bc bb bf bs s T ln st fd long text ends rec tx en rn) (x : Int) : RD (w.setCell ⟨bc, 2, none⟩ (.int .i64 x)) B bc bb bf bs s T ln x fd long text ends rec tx en rn :=
  { h with
    cr := h.cr.set2 x
    ot := owns_upd h.ot fun k hk => heap_set_other _ (by exact not_bc (h.dt k hk))
    oe := owns_upd h.oe fun k hk => heap_set_other _ (by exact not_bc (h.de k hk).1)
    ro := owns_upd h.ro fun k hk => heap_set_other _ (by exact not_bc (h.dr k hk).1) }
theorem RD.set3 (h : RD w B bc bb bf bs s T ln st fd long text ends rec tx en rn) (x : Int) : RD (w.setCell ⟨bc, 3, none⟩ (.int .i64 x)) B bc bb bf bs s T ln st x long text ends rec tx en rn :=
  { h with
    cr := h.cr.set3 x
    ot := owns_upd h.ot fun k hk => heap_set_other _ (by exact not_bc (h.dt k hk))
    oe := owns_upd h.oe fun k hk => heap_set_other _ (by exact not_bc (h.de k hk).1)
    ro := owns_upd h.ro fun k hk => heap_set_other _ (by exact not_bc (h.dr k hk).1) }

theorem RD.far {S : List Nat} (h : RD w B bc bb bf bs s T ln st fd long text ends rec tx en rn) (hu : Upd S w w') (hS : ∀ k, k ∈ S → w.heap.size ≤ k) : RD w' B bc bb bf bs s T ln st fd long text ends rec tx en rn :=
  { h with
    cr := h.cr.far hu (fun k hk hm => by have := h.cr.inlt k hm; have := hS k hk; omega)
    ot := owns_upd h.ot fun k hk => hu.block k (owns_lt h.ot k hk).1 (fun hm => by have := (owns_lt h.ot k hk).1; have := hS k hm; omega)
    oe := owns_upd h.oe fun k hk => hu.block k (owns_lt h.oe k hk).1 (fun hm => by have := (owns_lt h.oe k hk).1; have := hS k hm; omega)
    ro := owns_upd h.ro fun k hk => hu.block k (owns_lt h.ro k hk).1 (fun hm => by have := (owns_lt h.ro k hk).1; have := hS k hm; omega) }
theorem RD.drewN (h : RD w B bc bb bf bs s T ln st fd long text ends rec tx en rn) (n : Nat) : RD (w.drewN n) B bc bb bf bs s T ln st fd long text ends rec tx en rn := h.far ((Upd.refl [] w).drewN n) (by simp)

theorem RS.sz (h : RS w bb bf bs s T) : s.size ≤ 1048600 := by
  obtain ⟨r, wr, i, buf, lb, lr, pr, hst, hT⟩ := h
  exact hst.sz

theorem RD.tblock (h : RD w B bc bb bf bs s T ln st fd long text ends rec tx en rn) : ∀ k, k ∈ vb text → B ≤ k := fun k hk => (owns_lt h.ot k hk).2
end

theorem Errs.below {w w' : World} {B : Nat} {ea fa : Addr} (h : Errs w B ea fa) (hb : Below B w w') : Errs w' B ea fa := by
  have b4 := h.b4
  obtain ⟨c1, t1, h1⟩ := h.re
  obtain ⟨c2, t2, h2⟩ := h.rf
  exact { h with
    e := (World.cell?_of_block (w := w) (hb.block 0 (by omega))).trans h.e
    f := (World.cell?_of_block (w := w) (hb.block 2 (by omega))).trans h.f
    re := ⟨c1, t1, (hb.block _ h.be).trans h1⟩
    rf := ⟨c2, t2, (hb.block _ h.bf).trans h2⟩
    sz := Nat.le_trans h.sz hb.size }

/-- readLine, where text is left -/
theorem rd_line (B bc bb bf bs : Nat) (s : ByteArray) (T : List UInt8) (ln st fd : Int) (long text ends rec : Value) (tx : List UInt8) (en : List Nat) (rn : List (List UInt8)) (ea fa : Addr) (w : World) (h : RD w B bc bb bf bs s T ln st fd long text ends rec tx en rn) (he : Errs w B ea fa) (hT : T ≠ []) :
    Calls Tryf.prog 34 #[.pointer (some ⟨bc, 0, none⟩)] w fun e w' => ∃ v long' b, e = .returned (.tuple #[v, .nilIface]) ∧ LineIn w' b v (fl T) ∧ RD w' B bc bb bf bs s (T.drop (fl T).length) (ln + 1) st fd long' text ends rec tx en rn ∧ (b = bf ∨ b ∈ vb long') ∧ Below B w w' := by
  have hsz := h.cr.rs.sz
  have hl1 := h.l1
  refine (readLine_any B bc bb bf bs s T ln st fd long text ends rec ea fa w h.cr he hT h.l0 (by omega)).mono ?_
  rintro e w' ⟨v, long', b, rfl, h1, h2, h3, h4, h5⟩
  have hfp := fl_pos T hT
  have hfl := fl_le T
  have keep : ∀ {x : Value} {e n : Nat} {xs : List Value}, w.ownsRow B e 1 x n xs → (∀ k, k ∈ vb x → k ∉ [bc, bb, bf, bs] ++ vb long) → w'.ownsRow B e 1 x n xs ∧ ∀ k, k ∈ vb x → k ∉ [bc, bb, bf, bs] ++ vb long' := fun {x e n xs} ho hd =>
    ⟨owns_upd ho fun k hk => h3.block k (owns_lt ho k hk).1 (hd k hk), fun k hk hm => by
      rcases List.mem_append.1 hm with hm | hm
      · exact hd k hk (List.mem_append_left _ hm)
      · rcases h5 k hm with h6 | h6
        · exact hd k hk (List.mem_append_right _ h6)
        · have := (owns_lt ho k hk).1; omega⟩
  have k1 := keep h.ot h.dt
  have k2 := keep h.oe (fun k hk => (h.de k hk).1)
  have k3 := keep h.ro (fun k hk => (h.dr k hk).1)
  refine ⟨v, long', b, rfl, h1, { cr := h2, ot := k1.1, oe := k2.1, ro := k3.1, dt := k1.2, de := fun k hk => ⟨k2.2 k hk, (h.de k hk).2⟩, dr := fun k hk => ⟨k3.2 k hk, (h.dr k hk).2⟩, l0 := by have := h.l0; omega, l1 := by simp; omega, lc := fun hne => ?_ }, h4, h3.below he.sz h.cr.sub⟩
  have := h.lc hT
  have := count_drop hne
  omega

/-- readLine at the text's end -/
theorem rd_nil (B bc bb bf bs : Nat) (s : ByteArray) (ln st fd : Int) (long text ends rec : Value) (tx : List UInt8) (en : List Nat) (rn : List (List UInt8)) (ea fa : Addr) (w : World) (h : RD w B bc bb bf bs s [] ln st fd long text ends rec tx en rn) (he : Errs w B ea fa) :
    Calls Tryf.prog 34 #[.pointer (some ⟨bc, 0, none⟩)] w fun e w' => e = .returned (.tuple #[.slice none 0 0, errV ea]) ∧ Below B w w' := by
  refine (readLine_nil B bc bb bf bs s ln st fd long text ends rec ea fa w h.cr he).mono ?_
  rintro e w' ⟨rfl, h1, h2⟩
  exact ⟨rfl, h2.below he.sz (fun k hk => h.cr.sub k (by simp at hk ⊢; omega))⟩
end Go.Proofs.Qxb6613956aFmt.W
