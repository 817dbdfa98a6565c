import Derived.Lib.Index
import Derived.Lib.IndexBytes
import Derived.Lib.Strings
namespace Go.Proofs.Qxb6603847a.S

/-- the pieces, a slash ahead of each but the first -/
def W : List (List UInt8) → List (List UInt8)
  | [] => []
  | x :: xs => x :: xs.map (47 :: ·)

theorem W_length (P : List (List UInt8)) : (W P).length = P.length := by cases P <;> simp [W]
theorem W_zero (P : List (List UInt8)) (h : 0 < P.length) (h' : 0 < (W P).length) : (W P)[0] = P[0] := by
  cases P with
  | nil => simp at h
  | cons x xs => rfl
theorem W_succ (P : List (List UInt8)) (j : Nat) (h : j + 1 < P.length) (h' : j + 1 < (W P).length) : (W P)[j + 1] = 47 :: P[j + 1] := by
  cases P with
  | nil => simp at h
  | cons x xs => simp [W]

theorem seps (L : List (List UInt8)) (t : List UInt8) : ((L ++ [t]).map (47 :: ·)).flatten = 47 :: ((L.map (· ++ [47])).flatten ++ t) := by
  induction L with
  | nil => simp
  | cons b bs ih =>
    rw [List.cons_append, List.map_cons, List.flatten_cons, ih]
    simp
theorem W_join (acc : List (List UInt8)) (t : List UInt8) : (W (acc ++ [t])).flatten = (acc.map (· ++ [47])).flatten ++ t := by
  cases acc with
  | nil => simp [W]
  | cons a as =>
    rw [List.cons_append, W, List.flatten_cons, seps]
    simp

/-- the first j pieces, joined -/
def pre (P : List (List UInt8)) (j : Nat) : List UInt8 := ((W P).take j).flatten
theorem pre_succ {P : List (List UInt8)} {j : Nat} (h : j < (W P).length) : pre P (j + 1) = pre P j ++ (W P)[j] := by
  unfold pre
  rw [List.take_add_one, List.getElem?_eq_getElem h, List.flatten_append]
  congr 1
  exact List.append_nil _
theorem pre_all {P : List (List UInt8)} {j : Nat} (h : ¬ j < P.length) : pre P j = (W P).flatten := by
  unfold pre; rw [List.take_of_length_le (by rw [W_length]; omega)]
theorem pre_le (P : List (List UInt8)) (j : Nat) : (pre P j).length ≤ (W P).flatten.length := by
  have : (W P).flatten = pre P j ++ ((W P).drop j).flatten := by unfold pre; rw [← List.flatten_append, List.take_append_drop]
  rw [this, List.length_append]; omega

theorem index_fit (l sub : List UInt8) (h : 0 ≤ Lib.index l sub) : Lib.index l sub + sub.length ≤ l.length := by
  induction l with
  | nil =>
    unfold Lib.index at h ⊢
    split at h
    · rename_i he
      rw [if_pos he]
      simp at he
      simp [he]
    · omega
  | cons b l ih =>
    unfold Lib.index at h ⊢
    split at h
    · rename_i he
      rw [if_pos he]
      have := (List.isPrefixOf_iff_prefix.1 he).length_le
      omega
    · rename_i he
      rw [if_neg he]
      split at h
      · omega
      · rename_i hn
        rw [if_neg hn]
        have hg := Lib.index_ge l sub
        have hn' : ¬ Lib.index l sub = -1 := by simpa using hn
        have := ih (by omega)
        simp only [List.length_cons]
        omega
theorem prefix_fit (l p : List UInt8) (h : Lib.hasPrefix l p = true) : p.length ≤ l.length := (List.isPrefixOf_iff_prefix.1 h).length_le

/-- what splitLevels keeps: the finished pieces, where the open one starts -/
structure Cut (s : List UInt8) (acc : List (List UInt8)) (start : Nat) : Prop where
  eq : (acc.map (· ++ [47])).flatten ++ s.drop start = s
  ct : acc.length ≤ (s.take start).count 47
  le : start ≤ s.length

theorem Cut.zero (s : List UInt8) : Cut s [] 0 := ⟨by simp, by simp, Nat.zero_le _⟩
theorem Cut.step {s : List UInt8} {acc : List (List UInt8)} {start i : Nat} (h : Cut s acc start) (hs : start ≤ i) (hi : i < s.length) (hc : s[i] = 47) : Cut s (acc ++ [(s.drop start).take (i - start)]) (i + 1) := by
  have hd : s.drop start = (s.drop start).take (i - start) ++ (47 :: s.drop (i + 1)) := by
    conv => lhs; rw [← List.take_append_drop (i - start) (s.drop start)]
    rw [List.drop_drop, show start + (i - start) = i by omega, List.drop_eq_getElem_cons hi, hc]
  refine ⟨?_, ?_, by omega⟩
  · rw [List.map_append, List.flatten_append, List.append_assoc]
    have e := h.eq
    rw [hd] at e
    simpa using e
  · have e1 : s.take (i + 1) = s.take i ++ [47] := by rw [List.take_add_one, List.getElem?_eq_getElem hi, hc]; rfl
    have e2 : (s.take start).count 47 ≤ (s.take i).count 47 := by
      have : s.take start = (s.take i).take start := by rw [List.take_take, Nat.min_eq_left hs]
      rw [this]
      exact List.Sublist.count_le _ (List.take_sublist _ _)
    rw [e1, List.count_append, List.length_append]
    have := h.ct
    simp
    omega
end Go.Proofs.Qxb6603847a.S
