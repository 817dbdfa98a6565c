/-
  ZZReadPlain, Line; the law's guards.
-/
import Derived.Test.Qxb6613956aFmtRdr
import Derived.Test.Qxb6613956aFmtPar1
namespace Go.Proofs.Qxb6613956aFmt.W
open Go.RowKit

/-- Read, whole -/
theorem reads_any (F : Go.Stop.Interp) (B bc bb bf bs : Nat) (s : ByteArray) (T : List UInt8) (ln st : Int) (fd : Nat) (long text ends rec : Value) (tx : List UInt8) (en : List Nat) (rn : List (List UInt8)) (ea fa : Addr) (w : World)
    (h : RD w B bc bb bf bs s T ln st fd long text ends rec tx en rn) (he : Errs w B ea fa) (hF : F.answers w.tape) :
    Calls Tryf.prog 32 #[.pointer (some ⟨bc, 0, none⟩)] w fun e w' => ROut w B bc bb bf bs s T fd ea e w' := by
  by_cases hT : T = []
  · subst hT
    exact reads_nil B bc bb bf bs s ln st fd long text ends rec tx en rn ea fa w h he
  · exact reads_some F B bc bb bf bs s T ln st fd long text ends rec tx en rn ea fa w h he hF hT

/-- how ZZReadPlain ends -/
def PlOut (w : World) (B bc bb bf bs : Nat) (s : ByteArray) (T : List UInt8) (fd : Nat) (e : Ending) (w' : World) : Prop :=
  (unbl T = [] ∧ e = .returned (.tuple #[.slice none 0 0, .bool true, .bool true]) ∧ Below B w w') ∨
  (unbl T ≠ [] ∧ (rc (unbl T) = none ∨ ∃ r Z, rc (unbl T) = some (r, Z) ∧ fd ≠ 0 ∧ r.length ≠ fd) ∧ e = .returned (.tuple #[.slice none 0 0, .bool true, .bool false]) ∧ Below B w w') ∨
  (∃ r Z v ln st long text ends tx en, unbl T ≠ [] ∧ rc (unbl T) = some (r, Z) ∧ (fd = 0 ∨ r.length = fd) ∧ e = .returned (.tuple #[v, .bool false, .bool false]) ∧ RD w' B bc bb bf bs s Z ln st (r.length : Nat) long text ends v tx en r ∧ st + ((unbl T).count 10 : Nat) = (s.data.toList.count 10 : Nat) + 1 ∧ Below B w w')

theorem Below.drewN {B : Nat} {a b : World} (h : Below B a b) (n : Nat) : Below B a (b.drewN n) := ⟨h.os, h.tape, h.output, h.size, h.block⟩

set_option maxRecDepth 100000 in
set_option maxHeartbeats 400000 in
theorem pl_any (F : Go.Stop.Interp) (B bc bb bf bs : Nat) (s : ByteArray) (T : List UInt8) (ln st : Int) (fd : Nat) (long text ends rec : Value) (tx : List UInt8) (en : List Nat) (rn : List (List UInt8)) (ea fa : Addr) (w : World)
    (h : RD w B bc bb bf bs s T ln st fd long text ends rec tx en rn) (he : Errs w B ea fa) (hF : F.answers w.tape) :
    Calls Tryf.prog 14 #[.pointer (some ⟨bc, 0, none⟩)] w fun e w' => PlOut w B bc bb bf bs s T fd e w' := by
  have q := reads_any F B bc bb bf bs s T ln st fd long text ends rec tx en rn ea fa w h he hF
  clear h
  go_enter Tryf.func14, Tryf.ntmps14
  go_wp2_with fail
  go_fit q
  rintro e w1 hq
  clear q
  rcases hq with ⟨h1, rfl, hbe⟩ | ⟨a, h1, h2, rfl, hbad⟩ | ⟨r, Z, v, ln1, st1, long1, text1, ends1, tx1, en1, h1, h2, h3, rfl, h4, h5, h6⟩
  · have H1 := hid h1
    clear h1
    have e1 := (he.below hbe).e
    have q4 := fun n => eql_same ea (w1.drewN n)
    go_wp2_with fail
    go_quiet (fail)
    go_wp2_with fail
    go_ret3
    exact .inl ⟨H1.out, rfl, Below.drewN hbe _⟩
  · have HH := hid (And.intro h1 h2)
    clear h1 h2
    have he1 := he.below hbad.be
    have e1 := he1.e
    have hne : a ≠ ea := by
      rintro rfl
      have := he1.be
      have := hbad.lo
      omega
    have q4 := fun n => eql_other (w := w1.drewN n) hne hbad.row he1.re
    have HN := hid hne
    clear hne
    go_wp2_with fail
    go_quiet (fail)
    go_wp2_with fail
    go_ret3
    exact .inr (.inl ⟨HH.out.1, HH.out.2, rfl, Below.drewN hbad.be _⟩)
  · have HH := hid (And.intro h1 (And.intro h2 (And.intro h3 (And.intro h4 (And.intro h5 h6)))))
    have e1 := (he.below h6).e
    clear h1 h2 h3 h4 h5 h6
    have q4 := fun a n => eql_nil a (w1.drewN n)
    go_wp2_with fail
    go_quiet (fail)
    go_wp2_with fail
    go_ret3
    obtain ⟨h1, h2, h3, h4, h5, h6⟩ := HH.out
    exact .inr (.inr ⟨r, Z, v, ln1, st1, long1, text1, ends1, tx1, en1, h1, h2, h3, rfl, h4.drewN _, h5, Below.drewN h6 _⟩)

theorem line_any (bc : Nat) (st : Int) (w : World) (h : w.cell? ⟨bc, 2, none⟩ = some (.int .i64 st)) :
    Calls Tryf.prog 16 #[.pointer (some ⟨bc, 0, none⟩)] w fun e w' => e = .returned (.int .i64 st) ∧ w' = w := by
  go_enter Tryf.func16, Tryf.ntmps16
  go_wp2_with fail
  go_ret
  exact ⟨rfl, rfl⟩

set_option maxHeartbeats 400000 in
theorem bytes18 (s : ByteArray) (w : World) :
    Calls Tryf.prog 18 #[.string s] w fun e w' => e = .returned (.bool (decide (s.size ≤ 1048576))) ∧ w' = w := by
  by_cases h : s.size ≤ 1048576
  · go_enter Tryf.func18, Tryf.ntmps18
    go_wp2
    go_ret
    exact ⟨ret_b (by simp [h]), rfl⟩
  · go_enter Tryf.func18, Tryf.ntmps18
    go_wp2
    go_ret
    exact ⟨ret_b (by simp [h]), rfl⟩
end Go.Proofs.Qxb6613956aFmt.W
