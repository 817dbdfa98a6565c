/-
  What Read keeps: plain lists, and the reader's rows.
-/
import Derived.Test.Qxb6613956aFmtFld
namespace Go.Proofs.Qxb6613956aFmt.W
open Go.RowKit

/-- how many bytes the first i fields have -/
def pl (acc : List (List UInt8)) (i : Nat) : Nat := (acc.take i).flatten.length
/-- where each field ends -/
def psums (acc : List (List UInt8)) : List Nat := (List.range acc.length).map fun i => pl acc (i + 1)

theorem psums_length (acc : List (List UInt8)) : (psums acc).length = acc.length := by simp [psums]
theorem psums_get (acc : List (List UInt8)) (i : Nat) (h : i < (psums acc).length) : (psums acc)[i] = pl acc (i + 1) := by simp [psums]
theorem psums_app (acc : List (List UInt8)) (t : List UInt8) : psums (acc ++ [t]) = psums acc ++ [(acc ++ [t]).flatten.length] := by
  unfold psums
  rw [List.length_append, List.length_singleton, List.range_succ, List.map_append]
  congr 1
  · apply List.map_congr_left
    intro i hi
    rw [List.mem_range] at hi
    unfold pl
    rw [List.take_append_of_le_length (by omega)]
  · simp only [List.map_cons, List.map_nil]
    unfold pl
    rw [List.take_of_length_le (by simp)]
theorem pl_zero (acc : List (List UInt8)) : pl acc 0 = 0 := by simp [pl]
theorem pl_succ (acc : List (List UInt8)) (i : Nat) (h : i < acc.length) : pl acc (i + 1) = pl acc i + (acc[i]).length := by
  unfold pl
  rw [List.take_add_one, List.getElem?_eq_getElem h, List.flatten_append, List.length_append]
  congr 1
  simp
theorem pl_le (acc : List (List UInt8)) (i : Nat) : pl acc i ≤ acc.flatten.length := by
  unfold pl
  conv => rhs; rw [← List.take_append_drop i acc, List.flatten_append, List.length_append]
  omega
theorem flatten_at (acc : List (List UInt8)) (i : Nat) (h : i < acc.length) : (acc.flatten.drop (pl acc i)).take (acc[i]).length = acc[i] := by
  have e : acc.flatten = (acc.take i).flatten ++ (acc[i] ++ (acc.drop (i + 1)).flatten) := by
    conv => lhs; rw [← List.take_append_drop i acc, List.flatten_append, List.drop_eq_getElem_cons h, List.flatten_cons]
  rw [e]
  unfold pl
  simp
/-- a field out of the record's text -/
theorem piece_at (acc : List (List UInt8)) (i : Nat) (h : i < acc.length) : ((⟨acc.flatten.toArray⟩ : ByteArray).extract (pl acc i) (pl acc (i + 1))) = ⟨(acc[i]).toArray⟩ := by
  apply ByteArray.ext
  apply Array.ext'
  rw [Lib.extract_data, pl_succ acc i h]
  rw [show pl acc i + (acc[i]).length - pl acc i = (acc[i]).length by omega]
  exact flatten_at acc i h

theorem own_form' {w : World} {B e : Nat} {v : Value} {n : Nat} {xs : List Value} (h : w.ownsRow B e 1 v n xs) : ∃ p c, v = .slice p n c := by
  rcases h.2 with ⟨rfl, rfl⟩ | ⟨g, cap, cur, rfl, _⟩
  · exact ⟨none, 0, rfl⟩
  · exact ⟨_, cap, rfl⟩
theorem own_zero {w : World} {B e n c : Nat} {p : Option Addr} {xs : List Value} (h : w.ownsRow B e 1 (.slice p n c) n xs) : w.ownsRow B e 1 (.slice p 0 c) 0 [] := by
  rcases h.2 with ⟨h1, h2⟩ | ⟨g, cap, cur, h1, h2, h3, h4, h5, h6, h7⟩
  · simp at h1
    obtain ⟨rfl, _, rfl⟩ := h1
    exact World.ownsRow_nil _ _ _ _
  · simp at h1
    obtain ⟨rfl, rfl⟩ := h1
    exact ⟨rfl, .inr ⟨g, c, cur, rfl, h2, h3, Nat.zero_le _, h5, h6, by simp⟩⟩
theorem own_cap {w : World} {B e n c : Nat} {p : Option Addr} {xs : List Value} (h : w.ownsRow B e 1 (.slice p n c) n xs) : n ≤ c := by
  rcases h.2 with ⟨h1, h2⟩ | ⟨g, cap, cur, h1, h2, h3, h4, h5, h6, h7⟩
  · omega
  · simp at h1
    obtain ⟨rfl, rfl⟩ := h1
    exact h4
/-- string(b), b a row of the call's own -/
theorem conv_own {w : World} {B : Nat} {v : Value} {tx : List UInt8} (h : w.ownsRow B 5 1 v tx.length (Lib.byteCells tx)) : (convert 43 9 v).run Tryf.prog w = .ok (.string ⟨tx.toArray⟩) w := by
  rcases h.2 with ⟨rfl, h2⟩ | ⟨g, cap, cur, rfl, h2, h3, h4, h5, h6, h7⟩
  · obtain rfl : tx = [] := List.eq_nil_of_length_eq_zero h2
    exact run_convert_bytes_nil (P := Tryf.prog) w 43 5 Tryf.underlying43 Tryf.underlying5 0 0 9 Tryf.underlying9
  · by_cases h0 : tx.length = 0
    · obtain rfl : tx = [] := List.eq_nil_of_length_eq_zero h0
      have := run_convert_bytes_arg (P := Tryf.prog) w 43 5 Tryf.underlying43 Tryf.underlying5 g 0 0 cap [] rfl (fun k hk => by omega) 9 Tryf.underlying9
      exact this
    · exact conv_line0 (LineIn_own h) (by omega)
/-- cell i of a row of the call's own -/
theorem own_cell {w : World} {B e n c g : Nat} {xs : List Value} (h : w.ownsRow B e 1 (.slice (some ⟨g, 0, none⟩) n c) n xs) (i : Nat) (x : Value) (hx : xs[i]? = some x) : w.cell? ⟨g, i, none⟩ = some x := by
  have := h.cells (g := g) rfl i x hx
  rwa [add_addr, Nat.zero_add] at this
end Go.Proofs.Qxb6613956aFmt.W
