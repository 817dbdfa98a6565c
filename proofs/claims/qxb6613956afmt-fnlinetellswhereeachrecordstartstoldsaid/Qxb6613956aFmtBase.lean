/-
  Worlds: a call that turns the blocks of a list S alone, and lays new ones.
-/
import Derived.WalkKit
import Derived.ProofKit
import Derived.WalkSpells
import Derived.Lib.SmallJoins
import Derived.Lib.BufferWrite
import Derived.Laws.CopyOwn
namespace Go.Proofs.Qxb6613956aFmt
open Go.RowKit

/-- Of the blocks that were there those outside S are as they were. -/
structure Upd (S : List Nat) (w w' : World) : Prop where
  os : w'.os = w.os
  tape : w'.tape = w.tape
  output : w'.output = w.output
  size : w.heap.size ≤ w'.heap.size
  block : ∀ k, k < w.heap.size → k ∉ S → w'.heap[k]? = w.heap[k]?

theorem Upd.refl (S : List Nat) (w : World) : Upd S w w := ⟨rfl, rfl, rfl, Nat.le_refl _, fun _ _ _ => rfl⟩
theorem Upd.trans {S : List Nat} {a b c : World} (h : Upd S a b) (k : Upd S b c) : Upd S a c :=
  ⟨k.os.trans h.os, k.tape.trans h.tape, k.output.trans h.output, Nat.le_trans h.size k.size, fun i hi hs => (k.block i (Nat.lt_of_lt_of_le hi h.size) hs).trans (h.block i hi hs)⟩
theorem Upd.mono {S T : List Nat} {a b : World} (h : Upd S a b) (hs : ∀ k, k ∈ S → k ∈ T) : Upd T a b :=
  ⟨h.os, h.tape, h.output, h.size, fun k hk hn => h.block k hk (fun hm => hn (hs k hm))⟩
theorem Upd.drew {S : List Nat} {a b : World} (h : Upd S a b) : Upd S a b.drew := ⟨h.os, h.tape, h.output, h.size, h.block⟩
theorem Upd.drewN {S : List Nat} {a b : World} (h : Upd S a b) (n : Nat) : Upd S a (b.drewN n) := ⟨h.os, h.tape, h.output, h.size, h.block⟩
theorem Upd.setCell {S : List Nat} {a b : World} (h : Upd S a b) {p : Addr} (hp : p.block ∈ S) (v : Value) : Upd S a (b.setCell p v) :=
  h.trans ⟨rfl, rfl, rfl, by simp [World.setCell], fun k _ hk => Below.heap_setCell _ _ _ _ (fun e => hk (e ▸ hp))⟩
theorem Upd.setRow {S : List Nat} {a b : World} (h : Upd S a b) {g : Nat} (hg : g ∈ S) (cs : Array Value) : Upd S a (b.setRow g cs) :=
  h.trans ⟨rfl, rfl, rfl, by simp [World.setRow], fun k _ hk => setRow_other b g k cs (fun e => hk (e ▸ hg))⟩
theorem Upd.alloc {S : List Nat} {a b : World} (h : Upd S a b) (o : Obj) : Upd S a (b.alloc o) :=
  h.trans ⟨rfl, rfl, rfl, by simp, fun k hk _ => Below.heap_alloc _ _ _ hk⟩
theorem Upd.below {S : List Nat} {a b : World} (h : Upd S a b) {B : Nat} (hB : B ≤ a.heap.size) (hS : ∀ k, k ∈ S → B ≤ k) : Below B a b :=
  ⟨h.os, h.tape, h.output, h.size, fun k hk => h.block k (by omega) (fun hm => by have := hS k hm; omega)⟩
theorem Upd.cell {S : List Nat} {a b : World} (h : Upd S a b) {p : Addr} (hp : p.block < a.heap.size) (hn : p.block ∉ S) : b.cell? p = a.cell? p := World.cell?_of_block (w := a) (h.block p.block hp hn)

theorem lt_of_block {w : World} {b : Nat} {o : Obj} (h : w.heap[b]? = some o) : b < w.heap.size := (Array.getElem?_eq_some_iff.1 h).1
theorem heap_drewN (w : World) (n b : Nat) : (w.drewN n).heap[b]? = w.heap[b]? := rfl
theorem heap_set_other {w : World} {b : Nat} {p : Addr} (v : Value) (h : b ≠ p.block) : (w.setCell p v).heap[b]? = w.heap[b]? := Below.heap_setCell _ _ _ _ h

/-- 'l' laid over 'buf' from place o on -/
def over (buf : List UInt8) (o : Nat) (l : List UInt8) : List UInt8 := buf.take o ++ (l ++ buf.drop (o + l.length))
theorem over_length (buf : List UInt8) (o : Nat) (l : List UInt8) (h : o + l.length ≤ buf.length) : (over buf o l).length = buf.length := by simp [over]; omega

/-- the row of cells of a list of bytes -/
def rowB (l : List UInt8) : Array Value := (Lib.byteCells l).toArray

theorem rowB_size (l : List UInt8) : (rowB l).size = l.length := by simp [rowB, Lib.byteCells]
theorem rowB_get (l : List UInt8) (i : Nat) (h : i < l.length) : (rowB l)[i]? = some (.int .u8 (l[i].toNat : Int)) := by
  simp [rowB, Lib.byteCells, h]
theorem rowB_toList (l : List UInt8) : (rowB l).toList = Lib.byteCells l := by simp [rowB]

theorem rowB_over (buf l : List UInt8) (o : Nat) : ((rowB buf).toList.take o ++ Lib.byteCells l ++ (rowB buf).toList.drop (o + l.length)).toArray = rowB (over buf o l) := by
  rw [rowB_toList]
  simp [rowB, over, Lib.byteCells]

/-- copy(dst, t), t a string: as many bytes as the shorter has go over -/
theorem run_copy_str {P : Program} (w : World) (dT sT ty elem : TypeId) (g o dLen dCap : Nat) (t : ByteArray) (m : Nat) (buf : List UInt8) (tt : TypeId)
    (hu : P.underlying dT = some (.slice elem)) (hs : (P.info? elem).map (·.size) = some 1) (hg : w.heap[g]? = some (.cells (rowB buf) tt (0, 0))) (hm : min t.size dLen = m) (hfit : o + m ≤ buf.length) :
    (Builtin.copy_ #[dT, sT] ty #[.slice (some ⟨g, o, none⟩) dLen dCap, .string t]).run P w =
      .ok (goInt m) (w.setRow g (rowB (over buf o (t.data.toList.take m)))) := by
  have hl : (t.data.toList.take m).length = m := by
    rw [List.length_take, ← Lib.size_eq]; omega
  have hlen : (Lib.byteCells (t.data.toList.take m)).length = m := by rw [Lib.byteCells_length, hl]
  have hst := run_storeCells_at P g o tt (Lib.byteCells (t.data.toList.take m)) 0 (rowB buf) w hg (by rw [hlen, rowB_size]; simpa using hfit) (Lib.byteCells_one _)
  have htk : List.take m (List.map (fun b : UInt8 => Value.int IntKind.u8 (b.toNat : Int)) t.data.toList) = Lib.byteCells (t.data.toList.take m) := by
    rw [← List.map_take]; rfl
  simp only [Nat.add_zero] at hst
  have ho := rowB_over buf (t.data.toList.take m) o
  rw [hl] at ho
  rw [hlen] at hst
  rw [ho] at hst
  have hmin : Nat.min t.size dLen = m := hm
  cases hq : P.info? elem with
  | none => simp [hq] at hs
  | some i =>
    simp [Builtin.copy_, run_underlying hu, Builtin.lenOf, Builtin.firstCells, sizeOf, typeInfo, hq, hmin]
    rw [htk, hst]
    simp [Result.andThen]

theorem step_copy_str {P : Program} {ops : Array Oper} {o : Oper} {a : Act} {w : World} {K : Act → World → Prop} {Q : Exit → Act → World → Prop} {E : Prop} (hgd : o.guard = none) (d x : Operand) (dT sT : TypeId)
    (hop : o.op = .call { callee := .builtin .copy, args := #[d, x], argTypes := #[dT, sT] }) (elem : TypeId) (hu : P.underlying dT = some (.slice elem)) (hsz : (P.info? elem).map (·.size) = some 1)
    (g off dLen dCap : Nat) (hd : a.eval d = .slice (some ⟨g, off, none⟩) dLen dCap) (t : ByteArray) (hx : a.eval x = .string t) (m : Nat) (buf : List UInt8) (tt : TypeId)
    (hg : w.heap[g]? = some (.cells (rowB buf) tt (0, 0))) (hm : min t.size dLen = m) (hfit : off + m ≤ buf.length)
    (hK : ∀ w', Hid (w'.heap[g]? = some (.cells (rowB (over buf off (t.data.toList.take m))) tt (0, 0))) → Upd [g] w w' → K (a.put o.dst (goInt m)) w') :
    if Region.wanted o (yielded ops a.tmps) = true then Oper.wp P o a w K Q else E := by
  have hw : Region.wanted o (yielded ops a.tmps) = true := by simp [Region.wanted, hgd]
  rw [if_pos hw]
  have hrun := run_copy_str (P := P) w dT sT o.type elem g off dLen dCap t m buf tt hu hsz hg hm hfit
  unfold Oper.wp
  simp [execOp, hop, resolve, invoke, builtin, hd, hx, hrun, Result.andThen]
  exact hK _ (setRow_heap w g _ _ tt _ hg) ((Upd.refl _ _).setRow (by simp) _)

/-- copy(dst, src) between rows of bytes, as one step of a region that draws; nothing is asked of src's address where nothing goes over -/
theorem step_copy_bytes {P : Program} {ops : Array Oper} {o : Oper} {a : Act} {w : World} {K : Act → World → Prop} {Q : Exit → Act → World → Prop} {E : Prop} (hgd : o.guard = none) (d x : Operand) (dT sT : TypeId)
    (hop : o.op = .call { callee := .builtin .copy, args := #[d, x], argTypes := #[dT, sT] }) (elem : TypeId) (hu : P.underlying dT = some (.slice elem)) (hsz : (P.info? elem).map (·.size) = some 1)
    (g off dLen dCap : Nat) (hd : a.eval d = .slice (some ⟨g, off, none⟩) dLen dCap) (sp : Option Addr) (sLen sCap : Nat) (hx : a.eval x = .slice sp sLen sCap) (l buf : List UInt8) (tt : TypeId)
    (hg : w.heap[g]? = some (.cells (rowB buf) tt (0, 0))) (hm : l.length = min sLen dLen) (hfit : off + l.length ≤ buf.length)
    (hsrc : 0 < l.length → ∃ b2 o2, sp = some ⟨b2, o2, none⟩ ∧ ∀ j (h : j < l.length), w.cell? ⟨b2, o2 + j, none⟩ = some (.int .u8 (l[j].toNat : Int)))
    (hK : ∀ w', Hid (w'.heap[g]? = some (.cells (rowB (over buf off l)) tt (0, 0))) → Upd [g] w w' → K (a.put o.dst (goInt l.length)) w') :
    if Region.wanted o (yielded ops a.tmps) = true then Oper.wp P o a w K Q else E := by
  have hw : Region.wanted o (yielded ops a.tmps) = true := by simp [Region.wanted, hgd]
  rw [if_pos hw]
  by_cases h0 : l.length = 0
  · obtain rfl : l = [] := List.eq_nil_of_length_eq_zero h0
    have hrun := run_copy_none (P := P) w dT sT o.type elem (some ⟨g, off, none⟩) sp dLen dCap sLen sCap hu hsz hm.symm
    unfold Oper.wp
    simp [execOp, hop, resolve, invoke, builtin, hd, hx, hrun, Result.andThen]
    refine hK w ?_ (Upd.refl _ _)
    show w.heap[g]? = _
    rw [hg, over]; simp
  · obtain ⟨b2, o2, rfl, hc⟩ := hsrc (by omega)
    have hrun := run_copy_row (P := P) w dT sT o.type elem g off dLen dCap ⟨b2, o2, none⟩ sLen sCap (rowB buf) tt (Lib.byteCells l) hu hsz hg (by rw [Lib.byteCells_length]; exact hm)
      (fun j v hj => by
        have hjl : j < l.length := by
          have := (List.getElem?_eq_some_iff.1 hj).1
          rwa [Lib.byteCells_length] at this
        have e : (⟨b2, o2, none⟩ : Addr).add j = ⟨b2, o2 + j, none⟩ := by unfold Addr.add; split <;> simp_all
        rw [e, hc j hjl, ← hj]
        simp [Lib.byteCells, hjl]) (by rw [Lib.byteCells_length, rowB_size]; exact hfit) (Lib.byteCells_one _)
    rw [Lib.byteCells_length] at hrun
    rw [rowB_over] at hrun
    unfold Oper.wp
    simp [execOp, hop, resolve, invoke, builtin, hd, hx, hrun, Result.andThen]
    exact hK _ (setRow_heap w g _ _ tt _ hg) ((Upd.refl _ _).setRow (by simp) _)

theorem Upd.heap {S : List Nat} {a b : World} (h : Upd S a b) {k : Nat} {o : Obj} (hk : a.heap[k]? = some o) (hn : k ∉ S) : b.heap[k]? = some o := (h.block k (lt_of_block hk) hn).trans hk
theorem drewN_drewN (w : World) (a b : Nat) : (w.drewN a).drewN b = w.drewN (a + b) := by simp [World.drewN, Nat.add_assoc]

end Go.Proofs.Qxb6613956aFmt
