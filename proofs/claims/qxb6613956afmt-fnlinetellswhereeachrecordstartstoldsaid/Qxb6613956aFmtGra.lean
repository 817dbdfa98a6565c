/-
  FnReadFollowsTheDocumentedGrammar, FnLineTellsWhereEachRecordStarts: the walks.
-/
import Derived.Test.Qxb6613956aFmtPl2
namespace Go.Proofs.Qxb6613956aFmt.W
open Go.RowKit

theorem nil_eql24 (w : World) : (binOp .eql 24 (.slice none 0 0) (.slice none 0 0)).run Tryf.prog w = .ok (.bool true) w := by kernel_rfl

theorem ps_len (n : Nat) : ∀ (fd : Nat) (X : List UInt8), X.length ≤ n → (ps fd X).1.length ≤ X.length := by
  induction n with
  | zero =>
    intro fd X hX
    obtain rfl : X = [] := List.eq_nil_of_length_eq_zero (by omega)
    rw [ps_end rfl]; simp
  | succ n ih =>
    intro fd X hX
    by_cases h : unbl X = []
    · rw [ps_end h]; simp
    · cases hr : rc (unbl X) with
      | none => rw [ps_bad h hr]; simp
      | some y =>
        obtain ⟨r, Z⟩ := y
        by_cases hf : fd = 0 ∨ r.length = fd
        · have h1 := (rc_len _ (Nat.le_refl _) hr).1 h
          have h2 := unbl_le X
          have h3 := ih r.length Z (by omega)
          rw [ps_rec h hr hf]
          simp only [List.length_cons]
          omega
        · rw [not_or] at hf
          rw [ps_wrong h hr hf.1 hf.2]; simp

/-- a fresh reader -/
theorem rd_start {w : World} {B bc bb bf bs : Nat} {s : ByteArray} (h : CR w B bc bb bf bs s s.data.toList 0 0 0 (.slice none 0 0) (.slice none 0 0) (.slice none 0 0) (.slice none 0 0)) :
    RD w B bc bb bf bs s (tl s 0) 0 0 (0 : Nat) (.slice none 0 0) (.slice none 0 0) (.slice none 0 0) (.slice none 0 0) [] [] [] := by
  have e : tl s 0 = s.data.toList := by simp [tl]
  rw [e]
  exact { cr := h, ot := World.ownsRow_nil _ _ _ _, oe := World.ownsRow_nil _ _ _ _, ro := World.ownsRow_nil _ _ _ _, dt := fun k hk => by simp [vb] at hk, de := fun k hk => by simp [vb] at hk, dr := fun k hk => by simp [vb] at hk, l0 := by omega, l1 := by rw [← Lib.size_eq]; omega, lc := fun _ => by omega }

theorem Errs.raise {w w1 : World} {B : Nat} {ea fa : Addr} (h : Errs w B ea fa) (hu : Upd [] w w1) : Errs w1 w1.heap.size ea fa := by
  have h1 := h.upd hu (by simp)
  have := h1.sz
  exact { h1 with be := Nat.lt_of_lt_of_le h1.be this, bf := Nat.lt_of_lt_of_le h1.bf this, b4 := Nat.lt_of_lt_of_le h1.b4 this, sz := Nat.le_refl _ }

/-- what the laws keep while they read: the records from number k on are still to come -/
structure GL (w1 wr : World) (B bc bb bf bs : Nat) (s : ByteArray) (T : List UInt8) (ln st : Int) (fd : Nat) (long text ends rec : Value) (tx : List UInt8) (en : List Nat) (rn : List (List UInt8)) (L : List (List (List UInt8) × Nat)) (b : Bool) (k : Nat) : Prop where
  rd : RD wr B bc bb bf bs s T ln st fd long text ends rec tx en rn
  be : Below B w1 wr
  eq : ps fd T = (L.drop k, b)

theorem GL.step {fd k : Nat} {T Z : List UInt8} {r : List (List UInt8)} {L : List (List (List UInt8) × Nat)} {b : Bool} (eq : ps fd T = (L.drop k, b)) (h1 : unbl T ≠ []) (h2 : rc (unbl T) = some (r, Z)) (h3 : fd = 0 ∨ r.length = fd) :
    ∃ hk : k < L.length, L[k] = (r, (unbl T).count 10) ∧ ps r.length Z = (L.drop (k + 1), b) := by
  rw [ps_rec h1 h2 h3] at eq
  have e1 := (Prod.mk.inj eq).1
  have e2 := (Prod.mk.inj eq).2
  have hk : k < L.length := by
    rcases Nat.lt_or_ge k L.length with h | h
    · exact h
    · rw [List.drop_eq_nil_of_le h] at e1; cases e1
  rw [List.drop_eq_getElem_cons hk] at e1
  have e3 := (List.cons.inj e1).1
  have e4 := (List.cons.inj e1).2
  exact ⟨hk, e3.symm, Prod.ext e4 e2⟩
theorem GL.nomore {fd k : Nat} {T : List UInt8} {L : List (List (List UInt8) × Nat)} {b c : Bool} (eq : ps fd T = (L.drop k, b)) (e : ps fd T = ([], c)) : ¬ k < L.length ∧ b = c := by
  rw [e] at eq
  have e1 := (Prod.mk.inj eq).1
  have e2 := (Prod.mk.inj eq).2
  refine ⟨fun hk => ?_, e2.symm⟩
  rw [List.drop_eq_getElem_cons hk] at e1
  cases e1
theorem GL.bad {fd k : Nat} {T : List UInt8} {L : List (List (List UInt8) × Nat)} {b : Bool} (eq : ps fd T = (L.drop k, b)) (h1 : unbl T ≠ []) (h2 : rc (unbl T) = none ∨ ∃ r Z, rc (unbl T) = some (r, Z) ∧ fd ≠ 0 ∧ r.length ≠ fd) : ¬ k < L.length ∧ b = false := by
  rcases h2 with h2 | ⟨r, Z, h2, h3, h4⟩
  · exact GL.nomore eq (ps_bad h1 h2)
  · exact GL.nomore eq (ps_wrong h1 h2 h3 h4)

theorem rec_own {w : World} {B : Nat} {v : Value} {r : List (List UInt8)} (h : w.ownsRow B 9 1 v r.length (r.map strV)) (hr : 0 < r.length) : RecAt w v r := by
  obtain ⟨g, c, rfl, _, _⟩ := h.form hr
  exact ⟨g, c, rfl, fun j hj => own_cell h j _ (by rw [List.getElem?_map, List.getElem?_eq_getElem hj]; rfl)⟩

/-- record number k as zzParse laid it, seen from a later world -/
theorem PI.at {w w1 wr : World} {s : ByteArray} {t3 : Value} {p2 : Option Addr} {c2 k : Nat} {L : List (List (List UInt8) × Nat)} {vals : List Value} (h : PI w w1 s (.slice p2 L.length c2) t3 L vals) (hb : Below w1.heap.size w1 wr) (hk : k < L.length) :
    ∃ g v, p2 = some ⟨g, 0, none⟩ ∧ wr.cell? ⟨g, k, none⟩ = some v ∧ RecAt wr v (L[k].1) := by
  obtain ⟨g, c, hv, _, hg⟩ := h.o2.form (by omega)
  simp at hv
  obtain ⟨rfl, rfl⟩ := hv
  obtain ⟨v, g', c', h1, h2, _, _, h5, h6⟩ := h.rs k hk
  refine ⟨g, v, rfl, (hb.cell hg).trans (own_cell h.o2 k v h1), g', c', h2, fun j hj => (hb.cell h5).trans (h6 j hj)⟩

theorem PI.at3 {w w1 wr : World} {s : ByteArray} {t2 : Value} {p3 : Option Addr} {c3 k : Nat} {L : List (List (List UInt8) × Nat)} {vals : List Value} (h : PI w w1 s t2 (.slice p3 L.length c3) L vals) (hb : Below w1.heap.size w1 wr) (hk : k < L.length) :
    ∃ g, p3 = some ⟨g, 0, none⟩ ∧ wr.cell? ⟨g, k, none⟩ = some (stV s (L[k].2)) := by
  obtain ⟨g, c, hv, _, hg⟩ := h.o3.form (by omega)
  simp at hv
  obtain ⟨rfl, rfl⟩ := hv
  exact ⟨g, rfl, (hb.cell hg).trans (own_cell h.o3 k _ (by rw [List.getElem?_map, List.getElem?_eq_getElem hk]; rfl))⟩

set_option maxHeartbeats 400000 in
theorem bytes20 (s : ByteArray) (w : World) :
    Calls Tryf.prog 20 #[.string s] w fun e w' => e = .returned (.bool (decide (s.size ≤ 1048576))) ∧ w' = w := by
  by_cases h : s.size ≤ 1048576
  · go_enter Tryf.func20, Tryf.ntmps20
    go_wp2
    go_ret
    exact ⟨ret_b (by simp [h]), rfl⟩
  · go_enter Tryf.func20, Tryf.ntmps20
    go_wp2
    go_ret
    exact ⟨ret_b (by simp [h]), rfl⟩

set_option maxRecDepth 100000 in
set_option maxHeartbeats 1000000 in
theorem grammar_any (F : Go.Stop.Interp) (s : ByteArray) (ea fa : Addr) (w : World) (he : Errs w w.heap.size ea fa) (hF : F.answers w.tape) :
    Calls Tryf.prog 4 #[.string s] w fun e w' => e = .returned (.bool true) ∧ Below w.heap.size w w' := by
  by_cases hs : s.size ≤ 1048576
  · have hs2 : (s.size : Int) ≤ 1048576 := by omega
    obtain ⟨L, b, hLb⟩ : ∃ L b, ps 0 (tl s 0) = (L, b) := ⟨_, _, rfl⟩
    have q1 : Calls Tryf.prog 19 #[.string s] w fun e w' => ∃ t2 t3 vals, e = .returned (.tuple #[t2, t3, .bool b]) ∧ PI w w' s t2 t3 L vals := by
      have := parse_any s w (by omega)
      unfold POut at this
      rw [hLb] at this
      exact this
    have HLb := hid hLb
    clear hLb
    have hnil := nil_eql24
    go_enter Tryf.func4, Tryf.ntmps4
    go_wp2_with (first | (go_at_call 18; go_fit (bytes18 s _); rintro e w' ⟨rfl, rfl⟩))
    go_fit q1
    rintro e w1 ⟨t2, t3, vals, rfl, hpi⟩
    clear q1
    obtain ⟨p2, c2, rfl⟩ := own_form' hpi.o2
    have HPI := hid hpi
    clear hpi
    have he1 := he.raise HPI.out.up
    have hF1 : F.answers w1.tape := by rw [HPI.out.up.tape]; exact hF
    have q2 := newReader_any s w1 (by omega)
    go_wp2_with fail
    go_fit q2
    rintro e w2 ⟨bc, bb, bf, bs, rfl, hcr, hu2⟩
    clear q2
    have HGL := hid (show GL w1 w2 w1.heap.size bc bb bf bs s (tl s 0) 0 0 0 (.slice none 0 0) (.slice none 0 0) (.slice none 0 0) (.slice none 0 0) [] [] [] L b 0 from
      { rd := rd_start hcr, be := hu2.below (Nat.le_refl _) (by simp), eq := HLb.out })
    clear hcr hu2
    have hLl : L.length ≤ 1048600 := by
      have := ps_len _ 0 (tl s 0) (Nat.le_refl _)
      rw [HLb.out, tl_len] at this
      simp only at this
      omega
    go_wp2_with fail
    go_loopg [7] (L.length + 1) (fun k t7 wr => ∃ (i : Nat) (T : List UInt8) (ln st : Int) (fd : Nat) (long text ends rec : Value) (tx : List UInt8) (en : List Nat) (rn : List (List UInt8)), t7 = .int .i64 i ∧ i ≤ L.length ∧ L.length - i < k ∧ GL w1 wr w1.heap.size bc bb bf bs s T ln st fd long text ends rec tx en rn L b i)
    case atStart => exact ⟨0, _, _, _, _, _, _, _, _, _, _, _, rfl, by omega, by omega, HGL.out⟩
    case round =>
      clear HGL
      obtain ⟨k, T, ln, st, fd, long, text, ends, rec, tx, en, rn, rfl, hk, hkk, hgl⟩ := hrel
      have he3 := he1.below hgl.be
      have hF3 : F.answers wr.tape := by rw [hgl.be.tape]; exact hF1
      have q := pl_any F w1.heap.size bc bb bf bs s T ln st fd long text ends rec tx en rn ea fa wr hgl.rd he3 hF3
      have HG := hid hgl
      clear hgl
      by_cases hlt : k < L.length
      · have hltI : (k : Int) < L.length := by omega
        go_wp2_with fail
        go_fit q
        rintro e w3 hq
        clear q
        rcases hq with ⟨h1, rfl, h3⟩ | ⟨h1, h2, rfl, h3⟩ | ⟨r, Z, v, ln1, st1, long1, text1, ends1, tx1, en1, h1, h2, h3, rfl, h4, h5, h6⟩
        · exact absurd hlt (GL.nomore HG.out.eq (ps_end h1)).1
        · exact absurd hlt (GL.bad HG.out.eq h1 h2).1
        · obtain ⟨_, e1, e2⟩ := GL.step HG.out.eq h1 h2 h3
          have hrl := rc_len _ (Nat.le_refl _) h2
          have hb3 := HG.out.be.trans h6
          obtain ⟨g2, v2, rfl, hc2, hrec2⟩ := HPI.out.at hb3 hlt
          rw [e1] at hrec2
          have hrec1 := rec_own h4.ro (List.length_pos_iff.2 hrl.2.2.1)
          have hrz : r.length ≤ 1048700 := by
            have h7 := unbl_le T
            have h8 := HG.out.rd.l1
            have h9 := HG.out.rd.l0
            have h10 := hrl.2.2.2
            omega
          have q := same_any v v2 r w3 hrz hrec1 hrec2
          have HN := hid (show ∀ n, GL w1 (w3.drewN n) w1.heap.size bc bb bf bs s Z ln1 st1 r.length long1 text1 ends1 v tx1 en1 r L b (k + 1) from fun n => { rd := h4.drewN n, be := Below.drewN hb3 n, eq := e2 })
          clear h1 h2 h3 h4 h5 h6 e1 e2 hrl hb3 hrec1 hrec2
          go_wp2_with fail
          go_fit q
          rintro e w4 ⟨rfl, n4, hw4⟩
          clear q
          subst hw4
          go_wp2_with fail
          go_roundg (gk - 1)
          case measure => omega
          case rel => exact ⟨k + 1, _, _, _, _, _, _, _, _, _, _, _, by simp, by omega, by omega, HN.out n4⟩
      · have hltI : ¬ ((k : Int) < L.length) := by omega
        go_wp2_with fail
        go_fit q
        rintro e w3 hq
        clear q
        rcases hq with ⟨h1, rfl, h3⟩ | ⟨h1, h2, rfl, h3⟩ | ⟨r, Z, v, ln1, st1, long1, text1, ends1, tx1, en1, h1, h2, h3, rfl, h4, h5, h6⟩
        · obtain ⟨_, rfl⟩ := GL.nomore HG.out.eq (ps_end h1)
          clear h1
          go_wp2_with fail
          go_ret
          exact ⟨rfl, (HPI.out.up.below (Nat.le_refl _) (by simp)).trans ((HG.out.be.trans h3).mono HPI.out.up.size)⟩
        · obtain ⟨_, rfl⟩ := GL.bad HG.out.eq h1 h2
          clear h1 h2
          go_wp2_with fail
          go_ret
          exact ⟨rfl, (HPI.out.up.below (Nat.le_refl _) (by simp)).trans ((HG.out.be.trans h3).mono HPI.out.up.size)⟩
        · obtain ⟨h, _⟩ := GL.step HG.out.eq h1 h2 h3
          exact absurd h hlt
  · go_enter Tryf.func4, Tryf.ntmps4
    go_wp2_with (first | (go_at_call 18; go_fit (bytes18 s _); rintro e w' ⟨rfl, rfl⟩))
    go_ret
    exact ⟨rfl, Below.refl _ _⟩
set_option maxRecDepth 100000 in
set_option maxHeartbeats 1000000 in
theorem lines_any (F : Go.Stop.Interp) (s : ByteArray) (ea fa : Addr) (w : World) (he : Errs w w.heap.size ea fa) (hF : F.answers w.tape) :
    Calls Tryf.prog 5 #[.string s] w fun e w' => e = .returned (.bool true) ∧ Below w.heap.size w w' := by
  by_cases hs : s.size ≤ 1048576
  · have hs2 : (s.size : Int) ≤ 1048576 := by omega
    obtain ⟨L, b, hLb⟩ : ∃ L b, ps 0 (tl s 0) = (L, b) := ⟨_, _, rfl⟩
    have q1 : Calls Tryf.prog 19 #[.string s] w fun e w' => ∃ t2 t3 vals, e = .returned (.tuple #[t2, t3, .bool b]) ∧ PI w w' s t2 t3 L vals := by
      have := parse_any s w (by omega)
      unfold POut at this
      rw [hLb] at this
      exact this
    have HLb := hid hLb
    clear hLb
    go_enter Tryf.func5, Tryf.ntmps5
    go_wp2_with (first | (go_at_call 20; go_fit (bytes20 s _); rintro e w' ⟨rfl, rfl⟩))
    go_fit q1
    rintro e w1 ⟨t2, t3, vals, rfl, hpi⟩
    clear q1
    obtain ⟨p2, c2, rfl⟩ := own_form' hpi.o2
    obtain ⟨p3, c3, rfl⟩ := own_form' hpi.o3
    have HPI := hid hpi
    clear hpi
    have he1 := he.raise HPI.out.up
    have hF1 : F.answers w1.tape := by rw [HPI.out.up.tape]; exact hF
    have q2 := newReader_any s w1 (by omega)
    go_wp2_with fail
    go_fit q2
    rintro e w2 ⟨bc, bb, bf, bs, rfl, hcr, hu2⟩
    clear q2
    have HGL := hid (show GL w1 w2 w1.heap.size bc bb bf bs s (tl s 0) 0 0 0 (.slice none 0 0) (.slice none 0 0) (.slice none 0 0) (.slice none 0 0) [] [] [] L b 0 from
      { rd := rd_start hcr, be := hu2.below (Nat.le_refl _) (by simp), eq := HLb.out })
    clear hcr hu2
    have hLl : L.length ≤ 1048600 := by
      have := ps_len _ 0 (tl s 0) (Nat.le_refl _)
      rw [HLb.out, tl_len] at this
      simp only at this
      omega
    go_wp2_with fail
    go_loopg [7] (L.length + 1) (fun k t7 wr => ∃ (i : Nat) (T : List UInt8) (ln st : Int) (fd : Nat) (long text ends rec : Value) (tx : List UInt8) (en : List Nat) (rn : List (List UInt8)), t7 = .int .i64 i ∧ i ≤ L.length ∧ L.length - i < k ∧ GL w1 wr w1.heap.size bc bb bf bs s T ln st fd long text ends rec tx en rn L b i)
    case atStart => exact ⟨0, _, _, _, _, _, _, _, _, _, _, _, rfl, by omega, by omega, HGL.out⟩
    case round =>
      clear HGL
      obtain ⟨k, T, ln, st, fd, long, text, ends, rec, tx, en, rn, rfl, hk, hkk, hgl⟩ := hrel
      have he3 := he1.below hgl.be
      have hF3 : F.answers wr.tape := by rw [hgl.be.tape]; exact hF1
      have q := pl_any F w1.heap.size bc bb bf bs s T ln st fd long text ends rec tx en rn ea fa wr hgl.rd he3 hF3
      have HG := hid hgl
      clear hgl
      by_cases hlt : k < L.length
      · have hltI : (k : Int) < L.length := by omega
        go_wp2_with fail
        go_fit q
        rintro e w3 hq
        clear q
        rcases hq with ⟨h1, rfl, h3⟩ | ⟨h1, h2, rfl, h3⟩ | ⟨r, Z, v, ln1, st1, long1, text1, ends1, tx1, en1, h1, h2, h3, rfl, h4, h5, h6⟩
        · exact absurd hlt (GL.nomore HG.out.eq (ps_end h1)).1
        · exact absurd hlt (GL.bad HG.out.eq h1 h2).1
        · obtain ⟨_, e1, e2⟩ := GL.step HG.out.eq h1 h2 h3
          have hrl := rc_len _ (Nat.le_refl _) h2
          have hb3 := HG.out.be.trans h6
          obtain ⟨g3, rfl, hc3⟩ := HPI.out.at3 hb3 hlt
          rw [e1] at hc3
          have hst : stV s ((unbl T).count 10) = .int .i64 st1 := by
            unfold stV
            congr 1
            omega
          rw [hst] at hc3
          have hcl : w3.cell? ⟨bc, 2, none⟩ = some (.int .i64 st1) := Joins.cell_of_block h4.cr.hc 2
          have HN := hid (show ∀ n, GL w1 (w3.drewN n) w1.heap.size bc bb bf bs s Z ln1 st1 r.length long1 text1 ends1 v tx1 en1 r L b (k + 1) from fun n => { rd := h4.drewN n, be := Below.drewN hb3 n, eq := e2 })
          clear h1 h2 h3 h4 h5 h6 e1 e2 hrl hb3 hst
          have hnq : (st1 != st1) = false := by simp
          go_wp2_with fail
          go_quiet (first | (go_at_call 16; refine Calls.quiet_of_same (line_any bc st1 _ ?_); exact hcl))
          go_wp2_with fail
          go_roundg (gk - 1)
          case measure => omega
          case rel => exact ⟨k + 1, _, _, _, _, _, _, _, _, _, _, _, by simp, by omega, by omega, HN.out _⟩
      · have hltI : ¬ ((k : Int) < L.length) := by omega
        clear q
        go_wp2_with fail
        go_ret
        exact ⟨rfl, (HPI.out.up.below (Nat.le_refl _) (by simp)).trans (HG.out.be.mono HPI.out.up.size)⟩
  · go_enter Tryf.func5, Tryf.ntmps5
    go_wp2_with (first | (go_at_call 20; go_fit (bytes20 s _); rintro e w' ⟨rfl, rfl⟩))
    go_ret
    exact ⟨rfl, Below.refl _ _⟩
end Go.Proofs.Qxb6613956aFmt.W
