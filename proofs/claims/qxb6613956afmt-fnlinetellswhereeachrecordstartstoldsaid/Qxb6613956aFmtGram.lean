/-
  The documented grammar of CSV text, as plain functions of lists of bytes: no Go in sight.
-/
import Derived.Test.Qxb6613956aFmtErrs
namespace Go.Proofs.Qxb6613956aFmt.W
/-- less the byte c at the end -/
def chop (c : UInt8) (l : List UInt8) : List UInt8 := if l.getLast? = some c then l.dropLast else l
/-- less the line break at the end -/
def trim (l : List UInt8) : List UInt8 := chop 13 (chop 10 l)

theorem chop_app (c : UInt8) (l : List UInt8) : chop c (l ++ [c]) = l := by simp [chop]
theorem chop_not {c : UInt8} {l : List UInt8} (h : l.getLast? ≠ some c) : chop c l = l := by simp [chop, h]
theorem chop_nil (c : UInt8) : chop c [] = [] := by simp [chop]
theorem chop_eq_nil (c : UInt8) (l : List UInt8) : chop c l = [] ↔ l = [] ∨ l = [c] := by
  rcases List.eq_nil_or_concat l with rfl | ⟨p, x, rfl⟩
  · simp [chop]
  · by_cases hx : x = c
    · subst hx; simp [chop]
    · rw [chop_not (by simp [hx])]
      constructor
      · exact Or.inl
      · rintro (h | h)
        · exact h
        · exfalso
          have := congrArg List.getLast? h
          simp at this; exact hx this
theorem chop_eq_one (c d : UInt8) (hcd : c ≠ d) (l : List UInt8) : chop c l = [d] ↔ l = [d] ∨ l = [d, c] := by
  rcases List.eq_nil_or_concat l with rfl | ⟨p, x, rfl⟩
  · simp [chop]
  · by_cases hx : x = c
    · subst hx
      rw [List.concat_eq_append, chop_app]
      constructor
      · rintro rfl; simp
      · rintro (h | h)
        · exfalso
          have := congrArg List.getLast? h
          simp at this; exact hcd this
        · have := congrArg List.dropLast h
          simpa using this
    · rw [chop_not (by simp [hx])]
      constructor
      · exact Or.inl
      · rintro (h | h)
        · exact h
        · exfalso
          have := congrArg List.getLast? h
          simp at this; exact hx this
theorem trim_eq_nil (l : List UInt8) : trim l = [] ↔ l = [] ∨ l = [10] ∨ l = [13] ∨ l = [13, 10] := by
  unfold trim
  rw [chop_eq_nil, chop_eq_nil, chop_eq_one 10 13 (by decide)]
  constructor
  · rintro ((h | h) | (h | h)) <;> simp [h]
  · rintro (h | h | h | h) <;> simp [h]
theorem trim_sub (l : List UInt8) : ∃ r, trim l ++ r = l := by
  have h : ∀ c (l : List UInt8), ∃ r, chop c l ++ r = l := by
    intro c l
    unfold chop
    split
    · rename_i h
      refine ⟨[c], ?_⟩
      rcases List.eq_nil_or_concat l with rfl | ⟨p, x, rfl⟩
      · simp at h
      · simp at h; simp [h]
    · exact ⟨[], by simp⟩
  obtain ⟨r1, h1⟩ := h 10 l
  obtain ⟨r2, h2⟩ := h 13 (chop 10 l)
  exact ⟨r2 ++ r1, by unfold trim; rw [← List.append_assoc, h2, h1]⟩
theorem trim_len (l : List UInt8) : (trim l).length ≤ l.length := by
  obtain ⟨r, h⟩ := trim_sub l
  have := congrArg List.length h
  simp at this; omega

/-- the text from its first line on that is not blank -/
def unbl : List UInt8 → List UInt8
  | [] => []
  | [c] => if c = 10 ∨ c = 13 then [] else [c]
  | c :: d :: t => if c = 10 then unbl (d :: t) else if c = 13 ∧ d = 10 then unbl t else c :: d :: t

theorem unbl_lf (t : List UInt8) : unbl (10 :: t) = unbl t := by
  cases t <;> simp [unbl]
theorem unbl_crlf (t : List UInt8) : unbl (13 :: 10 :: t) = unbl t := by
  rw [unbl, if_neg (by decide), if_pos (by decide)]
theorem unbl_cr : unbl [13] = [] := by simp [unbl]
theorem unbl_nil : unbl [] = [] := rfl
/-- a blank line is skipped -/
theorem unbl_blank (X : List UInt8) (h : trim (fl X) = []) : unbl X = unbl (X.drop (fl X).length) := by
  rw [trim_eq_nil] at h
  match X with
  | [] => rfl
  | [c] =>
    by_cases hc : c = 10
    · subst hc; simp [unbl, fl]
    · rw [fl, if_neg hc] at *
      simp [fl, hc] at h
      subst h; simp [unbl, fl]
  | c :: d :: t =>
    by_cases hc : c = 10
    · subst hc; rw [unbl_lf]; simp [fl]
    · rw [fl, if_neg hc, fl] at h ⊢
      by_cases hd : d = 10
      · subst hd
        simp at h
        subst h
        rw [unbl_crlf]; simp
      · rw [if_neg hd] at h
        simp [hd] at h
theorem unbl_stop (X : List UInt8) (h : trim (fl X) ≠ []) : unbl X = X := by
  rw [Ne, trim_eq_nil] at h
  match X with
  | [] => rfl
  | [c] =>
    simp only [unbl]
    rw [if_neg]
    rintro (rfl | rfl) <;> simp [fl] at h
  | c :: d :: t =>
    by_cases hc : c = 10
    · subst hc; simp [fl] at h
    · rw [unbl, if_neg hc, if_neg]
      rintro ⟨rfl, rfl⟩
      simp [fl] at h
theorem unbl_le (X : List UInt8) : (unbl X).length ≤ X.length := by
  match X with
  | [] => simp [unbl]
  | [c] => simp only [unbl]; split <;> simp
  | c :: d :: t =>
    rw [unbl]
    split
    · have := unbl_le (d :: t); simp at this ⊢; omega
    · split
      · have := unbl_le t; simp; omega
      · simp

/-- what a quoted field holds, from behind its opening quote, and what follows its closing quote -/
def quo : List UInt8 → Option (List UInt8 × List UInt8)
  | [] => none
  | [c] => if c = 34 then some ([], []) else none
  | c :: d :: t => if c = 34 then (if d = 34 then (quo t).map (fun r => (34 :: r.1, r.2)) else some ([], d :: t)) else (quo (d :: t)).map fun r => (c :: r.1, r.2)

/-- with p ahead -/
def ahead (p : List UInt8) (r : Option (List UInt8 × List UInt8)) : Option (List UInt8 × List UInt8) := r.map fun x => (p ++ x.1, x.2)
theorem ahead_none (p : List UInt8) : ahead p none = none := rfl
theorem ahead_some (p t Z : List UInt8) : ahead p (some (t, Z)) = some (p ++ t, Z) := rfl
theorem ahead_ahead (p q : List UInt8) (r : Option (List UInt8 × List UInt8)) : ahead p (ahead q r) = ahead (p ++ q) r := by
  cases r <;> simp [ahead]
theorem ahead_nil (r : Option (List UInt8 × List UInt8)) : ahead [] r = r := by cases r <;> simp [ahead]

theorem quo_pre (p Z : List UInt8) (h : (34 : UInt8) ∉ p) : quo (p ++ Z) = ahead p (quo Z) := by
  induction p with
  | nil => rw [ahead_nil]; rfl
  | cons c p ih =>
    simp only [List.mem_cons, not_or] at h
    have hc : ¬ c = 34 := fun e => h.1 e.symm
    have := ih h.2
    rw [List.cons_append]
    cases hq : p ++ Z with
    | nil =>
      obtain ⟨rfl, rfl⟩ := List.append_eq_nil_iff.1 hq
      simp [quo, hc, ahead]
    | cons d t =>
      rw [quo, if_neg hc, ← hq, this]
      cases quo Z <;> simp [ahead]
theorem quo_none (p : List UInt8) (h : (34 : UInt8) ∉ p) : quo p = none := by
  have := quo_pre p [] h
  simpa [quo, ahead] using this
theorem quo_two (p Z : List UInt8) (h : (34 : UInt8) ∉ p) : quo (p ++ 34 :: 34 :: Z) = ahead (p ++ [34]) (quo Z) := by
  rw [quo_pre p _ h, quo, if_pos rfl, if_pos rfl, ← ahead_ahead]
  rfl
theorem quo_end (p Z : List UInt8) (h : (34 : UInt8) ∉ p) (hZ : Z.head? ≠ some 34) : quo (p ++ 34 :: Z) = some (p, Z) := by
  rw [quo_pre p _ h]
  cases Z with
  | nil => simp [quo, ahead]
  | cons d t =>
    have : ¬ d = 34 := by simpa using hZ
    rw [quo, if_pos rfl, if_neg this]; simp [ahead]
theorem quo_len {Y t Z : List UInt8} (h : quo Y = some (t, Z)) : t.length + Z.length + 1 ≤ Y.length := by
  match Y with
  | [] => simp [quo] at h
  | [c] =>
    simp only [quo] at h
    split at h
    · simp at h; obtain ⟨rfl, rfl⟩ := h; simp
    · simp at h
  | c :: d :: r =>
    rw [quo] at h
    split at h
    · split at h
      · simp at h
        obtain ⟨a, h1, rfl⟩ := h
        have := quo_len h1
        simp; omega
      · simp at h; obtain ⟨rfl, rfl⟩ := h; simp
    · simp at h
      obtain ⟨a, h1, rfl⟩ := h
      have := quo_len h1
      simp at this ⊢; omega

/-- one field: its text, whether another follows, and the text from there on -/
def fld (X : List UInt8) : Option (List UInt8 × Bool × List UInt8) :=
  if X.head? = some 34 then
    match quo X.tail with
    | none => none
    | some (t, Z) => if trim (fl Z) = [] then some (t, false, Z.drop (fl Z).length) else if Z.head? = some 44 then some (t, true, Z.tail) else none
  else if 44 ∈ fl X then
    (if 34 ∈ (fl X).takeWhile (· ≠ 44) then none else some ((fl X).takeWhile (· ≠ 44), true, X.drop (((fl X).takeWhile (· ≠ 44)).length + 1)))
  else if 34 ∈ trim (fl X) then none else some (trim (fl X), false, X.drop (fl X).length)

theorem tw_len (l : List UInt8) (h : (44 : UInt8) ∈ l) : (l.takeWhile (· ≠ 44)).length < l.length := by
  induction l with
  | nil => simp at h
  | cons c l ih =>
    rw [List.takeWhile_cons]
    by_cases hc : c = 44
    · simp [hc]
    · simp [hc]
      have : (44 : UInt8) ∈ l := by simpa [Ne.symm hc] using h
      simpa using ih this

theorem fld_q {X Y : List UInt8} (hX : X = 34 :: Y) (h : quo Y = none) : fld X = none := by subst hX; simp [fld, h]
theorem fld_q_last {X Y t Z : List UInt8} (hX : X = 34 :: Y) (h : quo Y = some (t, Z)) (hz : trim (fl Z) = []) : fld X = some (t, false, Z.drop (fl Z).length) := by subst hX; simp [fld, h, hz]
theorem fld_q_more {X Y t Z : List UInt8} (hX : X = 34 :: Y) (h : quo Y = some (t, Z)) (hz : trim (fl Z) ≠ []) (hc : Z.head? = some 44) : fld X = some (t, true, Z.tail) := by subst hX; simp [fld, h, hz, hc]
theorem fld_q_bad {X Y t Z : List UInt8} (hX : X = 34 :: Y) (h : quo Y = some (t, Z)) (hz : trim (fl Z) ≠ []) (hc : Z.head? ≠ some 44) : fld X = none := by subst hX; simp [fld, h, hz, hc]
theorem tw_app (t r : List UInt8) (h : (44 : UInt8) ∉ t) : (t ++ 44 :: r).takeWhile (· ≠ 44) = t := by
  induction t with
  | nil => simp
  | cons c t ih =>
    simp only [List.mem_cons, not_or] at h
    rw [List.cons_append, List.takeWhile_cons, if_pos (by simpa using fun e => h.1 e.symm), ih h.2]
theorem fld_c_more {X t r : List UInt8} (h0 : X.head? ≠ some 34) (hf : fl X = t ++ 44 :: r) (ht : (44 : UInt8) ∉ t) (hq : (34 : UInt8) ∉ t) : fld X = some (t, true, X.drop (t.length + 1)) := by
  rw [fld, if_neg h0, hf, if_pos (by simp), tw_app t r ht, if_neg hq]
theorem fld_c_bad {X t r : List UInt8} (h0 : X.head? ≠ some 34) (hf : fl X = t ++ 44 :: r) (ht : (44 : UInt8) ∉ t) (hq : (34 : UInt8) ∈ t) : fld X = none := by
  rw [fld, if_neg h0, hf, if_pos (by simp), tw_app t r ht, if_pos hq]
theorem fld_l_last {X : List UInt8} (h0 : X.head? ≠ some 34) (hc : (44 : UInt8) ∉ fl X) (hq : (34 : UInt8) ∉ trim (fl X)) : fld X = some (trim (fl X), false, X.drop (fl X).length) := by
  rw [fld, if_neg h0, if_neg hc, if_neg hq]
theorem fld_l_bad {X : List UInt8} (h0 : X.head? ≠ some 34) (hc : (44 : UInt8) ∉ fl X) (hq : (34 : UInt8) ∈ trim (fl X)) : fld X = none := by
  rw [fld, if_neg h0, if_neg hc, if_pos hq]

theorem fld_len {X t Z : List UInt8} {m : Bool} (h : fld X = some (t, m, Z)) : t.length + Z.length ≤ X.length ∧ (m = true → t.length + Z.length < X.length) ∧ (X ≠ [] → Z.length < X.length) := by
  unfold fld at h
  split at h
  · rename_i h0
    cases X with
    | nil => simp at h0
    | cons c Y =>
      simp only [List.tail_cons] at h
      split at h
      · simp at h
      · rename_i t' Z' hq
        have hl := quo_len hq
        split at h
        · simp at h; obtain ⟨rfl, rfl, rfl⟩ := h
          simp; omega
        · split at h
          · simp at h; obtain ⟨rfl, rfl, rfl⟩ := h
            simp; omega
          · simp at h
  · split at h
    · rename_i h0 hc
      have h1 := tw_len _ hc
      have h2 := fl_le X
      split at h
      · simp at h
      · simp only [Option.some.injEq, Prod.mk.injEq] at h
        obtain ⟨rfl, rfl, rfl⟩ := h
        simp only [List.length_drop]
        refine ⟨by omega, fun _ => by omega, fun _ => by omega⟩
    · split at h
      · simp at h
      · simp at h; obtain ⟨rfl, rfl, rfl⟩ := h
        have h1 := trim_len (fl X)
        have h2 := fl_le X
        refine ⟨by simp; omega, by simp, fun hX => ?_⟩
        have := fl_pos X hX
        simp; omega

/-- one record, in at most n fields: its fields, and the text behind it -/
def rcN : Nat → List UInt8 → Option (List (List UInt8) × List UInt8)
  | 0, _ => none
  | n + 1, X =>
    match fld X with
    | none => none
    | some (t, m, Z) => if m then (rcN n Z).map fun r => (t :: r.1, r.2) else some ([t], Z)
/-- one record: its fields, and the text behind it -/
def rc (X : List UInt8) : Option (List (List UInt8) × List UInt8) := rcN (X.length + 1) X

theorem rcN_eq (n : Nat) : ∀ (m : Nat) (X : List UInt8), X.length < n → X.length < m → rcN n X = rcN m X := by
  induction n with
  | zero => intro m X h; omega
  | succ n ih =>
    intro m X hn hm
    obtain ⟨m, rfl⟩ : ∃ k, m = k + 1 := ⟨m - 1, by omega⟩
    rw [rcN, rcN]
    cases hf : fld X with
    | none => rfl
    | some y =>
      obtain ⟨t, b, Z⟩ := y
      cases b with
      | false => rfl
      | true =>
        have hl := (fld_len hf).2.1 rfl
        simp only [if_true]
        rw [ih m Z (by omega) (by omega)]
theorem rc_bad {X : List UInt8} (h : fld X = none) : rc X = none := by rw [rc, rcN, h]
theorem rc_last {X t Z : List UInt8} (h : fld X = some (t, false, Z)) : rc X = some ([t], Z) := by rw [rc, rcN, h]; rfl
theorem rc_more {X t Z : List UInt8} (h : fld X = some (t, true, Z)) : rc X = (rc Z).map fun r => (t :: r.1, r.2) := by
  have := (fld_len h).2.1 rfl
  rw [rc, rcN, h]
  simp only [if_true]
  rw [rc, rcN_eq X.length (Z.length + 1) Z (by omega) (by omega)]

/-- with the fields a ahead -/
def aheadF (a : List (List UInt8)) (r : Option (List (List UInt8) × List UInt8)) : Option (List (List UInt8) × List UInt8) := r.map fun x => (a ++ x.1, x.2)
theorem aheadF_nil (r : Option (List (List UInt8) × List UInt8)) : aheadF [] r = r := by cases r <;> simp [aheadF]
theorem aheadF_none (a : List (List UInt8)) : aheadF a none = none := rfl
theorem aheadF_some (a t : List (List UInt8)) (Z : List UInt8) : aheadF a (some (t, Z)) = some (a ++ t, Z) := rfl
theorem rc_step {X t Z : List UInt8} (a : List (List UInt8)) (h : fld X = some (t, true, Z)) : aheadF a (rc X) = aheadF (a ++ [t]) (rc Z) := by
  rw [rc_more h]; cases rc Z <;> simp [aheadF]

theorem rc_len (n : Nat) : ∀ {X : List UInt8} {r : List (List UInt8)} {Z : List UInt8}, X.length ≤ n → rc X = some (r, Z) → (X ≠ [] → Z.length < X.length) ∧ Z.length ≤ X.length ∧ r ≠ [] ∧ r.length ≤ X.length + 1 := by
  induction n with
  | zero =>
    intro X r Z hX h
    obtain rfl : X = [] := List.eq_nil_of_length_eq_zero (by omega)
    have : fld [] = some ([], false, []) := by simp [fld, fl, trim, chop]
    rw [rc_last this] at h
    simp at h; obtain ⟨rfl, rfl⟩ := h
    simp
  | succ n ih =>
    intro X r Z hX h
    cases hf : fld X with
    | none => rw [rc_bad hf] at h; cases h
    | some x =>
      obtain ⟨t, m, Y⟩ := x
      have hl := fld_len hf
      cases m with
      | false =>
        rw [rc_last hf] at h
        simp at h; obtain ⟨rfl, rfl⟩ := h
        exact ⟨hl.2.2, by omega, by simp, by simp⟩
      | true =>
        rw [rc_more hf] at h
        simp at h
        obtain ⟨a, ha, rfl⟩ := h
        have h1 := hl.2.1 rfl
        have := ih (X := Y) (by omega) ha
        exact ⟨fun _ => by omega, by omega, by simp, by simp; omega⟩

/-- at most n records, each with the number of line feeds from its first byte on, and whether the text ends cleanly behind them -/
def psN : Nat → Nat → List UInt8 → List (List (List UInt8) × Nat) × Bool
  | 0, _, _ => ([], false)
  | n + 1, fd, X =>
    if unbl X = [] then ([], true) else
    match rc (unbl X) with
    | none => ([], false)
    | some (r, Z) => if fd = 0 ∨ r.length = fd then ((r, (unbl X).count 10) :: (psN n r.length Z).1, (psN n r.length Z).2) else ([], false)
/-- all records, each with the number of line feeds from its first byte on, and whether the text ends cleanly behind them -/
def ps (fd : Nat) (X : List UInt8) : List (List (List UInt8) × Nat) × Bool := psN (X.length + 1) fd X

theorem psN_eq (n : Nat) : ∀ (m fd : Nat) (X : List UInt8), X.length < n → X.length < m → psN n fd X = psN m fd X := by
  induction n with
  | zero => intro m fd X h; omega
  | succ n ih =>
    intro m fd X hn hm
    obtain ⟨m, rfl⟩ : ∃ k, m = k + 1 := ⟨m - 1, by omega⟩
    rw [psN, psN]
    by_cases h0 : unbl X = []
    · rw [if_pos h0, if_pos h0]
    · rw [if_neg h0, if_neg h0]
      cases hr : rc (unbl X) with
      | none => rfl
      | some y =>
        obtain ⟨r, Z⟩ := y
        have h1 := (rc_len _ (Nat.le_refl _) hr).1 h0
        have h2 := unbl_le X
        simp only
        rw [ih m r.length Z (by omega) (by omega)]
theorem ps_end {fd : Nat} {X : List UInt8} (h : unbl X = []) : ps fd X = ([], true) := by rw [ps, psN, if_pos h]
theorem ps_bad {fd : Nat} {X : List UInt8} (h : unbl X ≠ []) (hr : rc (unbl X) = none) : ps fd X = ([], false) := by rw [ps, psN, if_neg h, hr]
theorem ps_wrong {fd : Nat} {X : List UInt8} {r : List (List UInt8)} {Z : List UInt8} (h : unbl X ≠ []) (hr : rc (unbl X) = some (r, Z)) (hf : fd ≠ 0) (hl : r.length ≠ fd) : ps fd X = ([], false) := by
  rw [ps, psN, if_neg h, hr]; simp [hf, hl]
theorem ps_rec {fd : Nat} {X : List UInt8} {r : List (List UInt8)} {Z : List UInt8} (h : unbl X ≠ []) (hr : rc (unbl X) = some (r, Z)) (hf : fd = 0 ∨ r.length = fd) :
    ps fd X = ((r, (unbl X).count 10) :: (ps r.length Z).1, (ps r.length Z).2) := by
  have h1 := (rc_len _ (Nat.le_refl _) hr).1 h
  have h2 := unbl_le X
  rw [ps, psN, if_neg h, hr]
  simp only [if_pos hf]
  rw [ps, psN_eq X.length (Z.length + 1) r.length Z (by omega) (by omega)]
theorem fl_head (X : List UInt8) : (fl X).head? = X.head? := by
  cases X with
  | nil => rfl
  | cons c t => rw [fl]; split <;> simp
theorem fl_whole (X : List UInt8) : fl X ++ X.drop (fl X).length = X := by
  conv => rhs; rw [← List.take_append_drop (fl X).length X, fl_take]
theorem fl_eq_nil {X : List UInt8} (h : fl X = []) : X = [] := by
  cases X with
  | nil => rfl
  | cons c t => rw [fl] at h; split at h <;> simp at h
/-- a line parted at a byte that is no line feed -/
theorem fl_split {Y p r : List UInt8} {c : UInt8} (h : fl Y = p ++ c :: r) (hc : c ≠ 10) :
    (10 : UInt8) ∉ p ∧ Y = p ++ c :: Y.drop (p.length + 1) ∧ fl (Y.drop (p.length + 1)) = r ∧ Y.drop (fl Y).length = (Y.drop (p.length + 1)).drop r.length := by
  induction p generalizing Y with
  | nil =>
    cases Y with
    | nil => simp [fl] at h
    | cons d t =>
      rw [fl] at h
      split at h
      · rename_i hd; simp at h; exact absurd (h.1 ▸ hd) hc
      · rename_i hd
        simp at h
        obtain ⟨rfl, rfl⟩ := h
        refine ⟨by simp, by simp, by simp, ?_⟩
        rw [fl, if_neg hd]; simp
  | cons x p ih =>
    cases Y with
    | nil => simp [fl] at h
    | cons d t =>
      rw [fl] at h
      split at h
      · simp at h
      · rename_i hd
        simp at h
        obtain ⟨rfl, h⟩ := h
        obtain ⟨h1, h2, h3, h4⟩ := ih h
        refine ⟨?_, ?_, ?_, ?_⟩
        · simp only [List.mem_cons, not_or]; exact ⟨fun e => hd e.symm, h1⟩
        · simpa using h2
        · simpa using h3
        · rw [fl, if_neg hd]; simpa using h4
theorem fl_cons {Z r : List UInt8} {c : UInt8} (h : fl Z = c :: r) (hc : c ≠ 10) : Z = c :: Z.tail ∧ fl Z.tail = r ∧ Z.drop (fl Z).length = Z.tail.drop r.length := by
  obtain ⟨_, h2, h3, h4⟩ := fl_split (p := []) (r := r) (c := c) h hc
  refine ⟨by simpa using h2, by simpa using h3, ?_⟩
  rw [h4]; simp
theorem fl_count {T : List UInt8} (h : T.drop (fl T).length ≠ []) : (fl T).count 10 = 1 := by
  induction T with
  | nil => simp at h
  | cons c t ih =>
    by_cases hc : c = 10
    · rw [fl, if_pos hc]; simp [hc]
    · rw [fl, if_neg hc] at h ⊢
      rw [List.count_cons]
      simp at h
      simp [hc, ih (by simpa using h)]
theorem count_drop {T : List UInt8} (h : T.drop (fl T).length ≠ []) : T.count 10 = (T.drop (fl T).length).count 10 + 1 := by
  conv => lhs; rw [← fl_whole T]
  rw [List.count_append, fl_count h]; omega
theorem quo_line {Y : List UInt8} (h : (34 : UInt8) ∉ fl Y) : quo Y = ahead (fl Y) (quo (Y.drop (fl Y).length)) := by
  conv => lhs; rw [← fl_whole Y]
  exact quo_pre _ _ h
/-- a byte's first place in a list -/
theorem first_split (c : UInt8) (l : List UInt8) (h : c ∈ l) : ∃ p r, l = p ++ c :: r ∧ c ∉ p := by
  induction l with
  | nil => simp at h
  | cons x l ih =>
    by_cases hx : x = c
    · exact ⟨[], l, by simp [hx], by simp⟩
    · obtain ⟨p, r, rfl, hp⟩ := ih (by simpa [Ne.symm hx] using h)
      exact ⟨x :: p, r, by simp, by simp [hp]; exact fun e => hx e.symm⟩
end Go.Proofs.Qxb6613956aFmt.W
