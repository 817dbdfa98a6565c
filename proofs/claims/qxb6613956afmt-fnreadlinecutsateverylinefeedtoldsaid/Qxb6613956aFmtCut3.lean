import Derived.Test.Qxb6613956aFmtCut2
namespace Go.Proofs.Qxb6613956aFmt.W
open Go.RowKit

/-- the first i lines, joined -/
def pre (LW : List (List UInt8)) (i : Nat) : List UInt8 := (LW.take i).flatten
theorem pre_succ {LW : List (List UInt8)} {i : Nat} (h : i < LW.length) : pre LW (i + 1) = pre LW i ++ LW[i] := by
  unfold pre
  rw [List.take_add_one, List.getElem?_eq_getElem h, List.flatten_append]
  congr 1
  exact List.append_nil _
theorem pre_all {LW : List (List UInt8)} {i : Nat} (h : ¬ i < LW.length) : pre LW i = LW.flatten := by
  unfold pre; rw [List.take_of_length_le (by omega)]
theorem pre_le (LW : List (List UInt8)) (i : Nat) : (pre LW i).length ≤ LW.flatten.length := by
  have : LW.flatten = pre LW i ++ (LW.drop i).flatten := by unfold pre; rw [← List.flatten_append, List.take_append_drop]
  rw [this, List.length_append]; omega

theorem strCells_app (a b : List UInt8) : Lib.strCells ⟨(a ++ b).toArray⟩ = Lib.strCells ⟨a.toArray⟩ ++ Lib.strCells ⟨b.toArray⟩ := by
  simp [Lib.strCells]

/-- the loop that joins the lines -/
structure J5 (w3 wr : World) (LW : List (List UInt8)) (v : Value) (i : Nat) : Prop where
  ow : wr.ownsRow w3.heap.size 5 1 v (pre LW i).length (Lib.strCells ⟨(pre LW i).toArray⟩)
  up : Upd [] w3 wr

theorem J5.start (w3 : World) (q : Nat) (LW : List (List UInt8)) : J5 w3 (w3.drewN q) LW (.slice none 0 0) 0 :=
  { ow := by simp [pre, Lib.strCells]; exact World.ownsRow_nil _ _ _ _, up := (Upd.refl _ _).drewN _ }

theorem J5.step {w3 wr w4 : World} {LW : List (List UInt8)} {v v' : Value} {i : Nat} (h : J5 w3 wr LW v i) (hi : i < LW.length) {A : ByteArray} (hA : A = ⟨(LW[i]).toArray⟩)
    (ho : w4.ownsRow w3.heap.size 5 1 v' ((pre LW i).length + A.size) (Lib.strCells ⟨(pre LW i).toArray⟩ ++ Lib.strCells A)) (hg : wr.grownBy w4 v.ownBlock) : J5 w3 w4 LW v' (i + 1) := by
  subst hA
  refine { ow := ?_, up := upd_widen h.up (grown_upd hg (fun k hk => (ownBlock_vb v k).1 hk)) (fun x hx => .inr (owns_lt h.ow x hx).2) }
  rw [pre_succ hi, strCells_app, List.length_append]
  exact ho

theorem J5.conv {w3 wr : World} {LW : List (List UInt8)} {v : Value} {i : Nat} (h : J5 w3 wr LW v i) (hi : ¬ i < LW.length) (X : ByteArray) (hX : LW.flatten = X.data.toList) (h0 : 0 < X.size) :
    ∃ g c, v = .slice (some ⟨g, 0, none⟩) X.size c ∧ ∀ n, (convert 43 9 (.slice (some ⟨g, 0, none⟩) X.size c)).run Tryf.prog (wr.drewN n) = .ok (.string X) (wr.drewN n) := by
  have ho := h.ow
  rw [pre_all hi, hX] at ho
  have hl : X.data.toList.length = X.size := (Lib.size_eq X).symm
  rw [hl] at ho
  obtain ⟨g, c, rfl, _, _⟩ := ho.form h0
  refine ⟨g, c, rfl, fun n => ?_⟩
  have hc := ho.cells (g := g) rfl
  have e : X = ⟨X.data.toList.toArray⟩ := rfl
  conv => rhs; rw [e, ← nums_str]
  refine run_convert_bytes_arg (P := Tryf.prog) (wr.drewN n) 43 5 Tryf.underlying43 Tryf.underlying5 g 0 X.size c _ (by simp) (fun j hj => ?_) 9 Tryf.underlying9
  rw [nums_getD _ j (by rw [hl]; exact hj)]
  have := hc j (.int .u8 (X.data.toList[j]'(by rw [hl]; exact hj)).toNat) (by rw [Lib.strCells, List.getElem?_map, List.getElem?_eq_getElem (by rw [hl]; exact hj)]; rfl)
  rw [add_addr] at this
  exact this

theorem line_pos (T : List UInt8) (i : Nat) (h : i < (lns T).length) : 0 < (⟨((lns T)[i]).toArray⟩ : ByteArray).size := by
  have := lns_pos T _ (List.getElem_mem h)
  have h2 := List.length_pos_iff.2 this
  simpa [ByteArray.size] using h2
theorem ne10 {b : UInt8} (h : b ≠ 10) : ((b.toNat : Int) == 10) = false := by
  simp only [beq_eq_false_iff_ne, ne_eq]
  intro e
  apply h
  apply UInt8.toNat_inj.1
  have h2 : (b.toNat : Int) = ((10 : UInt8).toNat : Int) := e
  exact Int.ofNat.inj h2
theorem line_only (T : List UInt8) (i : Nat) (h : i < (lns T).length) (A : ByteArray) (hA : A = ⟨((lns T)[i]).toArray⟩) (j : Nat) (hj : j + 1 < A.size) : ((A[j].toNat : Int) == 10) = false := by
  subst hA
  exact ne10 (lns_only T _ (List.getElem_mem h) j (by simpa [ByteArray.size] using hj))
theorem line_ends (T : List UInt8) (i : Nat) (h : i + 1 < (lns T).length) (A : ByteArray) (hA : A = ⟨((lns T)[i]).toArray⟩) (hp : A.size - 1 < A.size) : ((A[A.size - 1].toNat : Int) != 10) = false := by
  have e := lns_ends T i _ (List.getElem?_eq_getElem (by omega)) h
  have e2 : A.data.toList.getLast? = some 10 := by subst hA; exact e
  rw [last_at A hp] at e2
  rw [Option.some.inj e2]
  rfl
end Go.Proofs.Qxb6613956aFmt.W
