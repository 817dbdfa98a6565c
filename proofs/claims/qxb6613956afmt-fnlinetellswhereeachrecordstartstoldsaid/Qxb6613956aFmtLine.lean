import Derived.Test.Qxb6613956aFmtErrs
namespace Go.Proofs.Qxb6613956aFmt.W
open Go.RowKit

/-- the cells of a csv.Reader -/
def crow (bb : Nat) (ln st fd : Int) (long text ends rec : Value) : Array Value :=
  #[.pointer (some ⟨bb, 0, none⟩), .int .i64 ln, .int .i64 st, .int .i64 fd, long, text, ends, rec]

/-- the block in which a slice lies -/
def vb : Value → List Nat
  | .slice (some a) _ _ => [a.block]
  | _ => []

structure CR (w : World) (B bc bb bf bs : Nat) (s : ByteArray) (T : List UInt8) (ln st fd : Int) (long text ends rec : Value) : Prop where
  hc : w.heap[bc]? = some (.cells (crow bb ln st fd long text ends rec) 69 (0, 0))
  rs : RS w bb bf bs s T
  lg : ∃ n xs, w.ownsRow B 5 1 long n xs
  dl : ∀ k, k ∈ vb long → k ≠ bc ∧ k ≠ bb ∧ k ≠ bf ∧ k ≠ bs
  Bc : B ≤ bc
  Bb : B ≤ bb
  Bf : B ≤ bf
  Bs : B ≤ bs
  cb : bc ≠ bb
  cf : bc ≠ bf
  cs : bc ≠ bs

theorem RS.upd {w w' : World} {bb bf bs : Nat} {s : ByteArray} {T : List UInt8} (h : RS w bb bf bs s T) (h1 : w'.heap[bb]? = w.heap[bb]?) (h2 : w'.heap[bf]? = w.heap[bf]?) (h3 : w'.heap[bs]? = w.heap[bs]?) : RS w' bb bf bs s T := by
  obtain ⟨r, wr, i, buf, lb, lr, pr, hst, hT⟩ := h
  exact ⟨r, wr, i, buf, lb, lr, pr, { hst with hb := h1.trans hst.hb, hf := h2.trans hst.hf, hs := h3.trans hst.hs }, hT⟩
theorem RS.d {w : World} {bb bf bs : Nat} {s : ByteArray} {T : List UInt8} (h : RS w bb bf bs s T) : bb ≠ bf ∧ bb ≠ bs ∧ bf ≠ bs ∧ bb < w.heap.size ∧ bf < w.heap.size ∧ bs < w.heap.size := by
  obtain ⟨r, wr, i, buf, lb, lr, pr, hst, hT⟩ := h
  exact ⟨hst.d1, hst.d2, hst.d3, lt_of_block hst.hb, lt_of_block hst.hf, lt_of_block hst.hs⟩

theorem owns_upd {w w' : World} {B e size : Nat} {v : Value} {n : Nat} {xs : List Value} (h : w.ownsRow B e size v n xs) (hk : ∀ k, k ∈ vb v → w'.heap[k]? = w.heap[k]?) : w'.ownsRow B e size v n xs := by
  obtain ⟨h1, h2⟩ := h
  refine ⟨h1, ?_⟩
  rcases h2 with h2 | ⟨g, cap, cur, rfl, hg, hh, r⟩
  · exact .inl h2
  · exact .inr ⟨g, cap, cur, rfl, hg, (hk g (by simp [vb])).trans hh, r⟩

theorem ccell {w : World} {bc bb : Nat} {ln st fd : Int} {long text ends rec : Value} (h : w.heap[bc]? = some (.cells (crow bb ln st fd long text ends rec) 69 (0, 0))) :
    w.cell? ⟨bc, 0, none⟩ = some (.pointer (some ⟨bb, 0, none⟩)) ∧ w.cell? ⟨bc, 1, none⟩ = some (.int .i64 ln) ∧ w.cell? ⟨bc, 4, none⟩ = some long ∧ w.frozen? ⟨bc, 1, none⟩ = false ∧ w.frozen? ⟨bc, 4, none⟩ = false :=
  ⟨Joins.cell_of_block h 0, Joins.cell_of_block h 1, Joins.cell_of_block h 4, Joins.unfrozen_of_block h 1, Joins.unfrozen_of_block h 4⟩

theorem LineIn.upd {w w' : World} {b : Nat} {v : Value} {L : List UInt8} (h : LineIn w b v L) (hb : w'.heap[b]? = w.heap[b]?) : LineIn w' b v L := by
  obtain ⟨a, c, e1, e2, e3, e4⟩ := h
  refine ⟨a, c, e1, e2, e3, fun h0 => ?_⟩
  obtain ⟨o, ea, hc⟩ := e4 h0
  exact ⟨o, ea, fun j hj => (World.cell?_of_block (w := w) hb).trans (hc j hj)⟩

theorem owns_lt {w : World} {B e size : Nat} {v : Value} {n : Nat} {xs : List Value} (h : w.ownsRow B e size v n xs) (k : Nat) (hk : k ∈ vb v) : k < w.heap.size ∧ B ≤ k := by
  obtain ⟨h1, h2⟩ := h
  rcases h2 with ⟨rfl, _⟩ | ⟨g, cap, cur, rfl, hg, hh, r⟩
  · simp [vb] at hk
  · simp [vb] at hk; subst hk; exact ⟨lt_of_block hh, hg⟩

theorem RS.drewN {w : World} {bb bf bs : Nat} {s : ByteArray} {T : List UInt8} (h : RS w bb bf bs s T) (n : Nat) : RS (w.drewN n) bb bf bs s T := h.upd rfl rfl rfl

theorem CR.drewN {w : World} {B bc bb bf bs : Nat} {s : ByteArray} {T : List UInt8} {ln st fd : Int} {long text ends rec : Value} (h : CR w B bc bb bf bs s T ln st fd long text ends rec) (n : Nat) : CR (w.drewN n) B bc bb bf bs s T ln st fd long text ends rec :=
  { h with hc := h.hc, rs := h.rs.drewN n, lg := h.lg }

/-- behind a call that leaves the csv.Reader's own cells and its long line alone -/
theorem CR.step {w w' : World} {B bc bb bf bs : Nat} {s : ByteArray} {T T' : List UInt8} {ln st fd : Int} {long text ends rec : Value} {S : List Nat} (h : CR w B bc bb bf bs s T ln st fd long text ends rec) (hu : Upd S w w') (hS : bc ∉ S) (hl : ∀ k, k ∈ vb long → k ∉ S) (hr : RS w' bb bf bs s T') : CR w' B bc bb bf bs s T' ln st fd long text ends rec := by
  obtain ⟨n, xs, ho⟩ := h.lg
  exact { h with
    hc := hu.heap h.hc hS
    rs := hr
    lg := ⟨n, xs, owns_upd ho fun k hk => hu.block k (owns_lt ho k hk).1 (hl k hk)⟩ }

theorem LineIn_eq {w : World} {b : Nat} {v v' : Value} {L : List UInt8} (e : v = v') (h : LineIn w b v L) : LineIn w b v' L := e ▸ h

/-- 'r.line++' -/
theorem CR.bump {w : World} {B bc bb bf bs : Nat} {s : ByteArray} {T : List UInt8} {ln st fd : Int} {long text ends rec : Value} (h : CR w B bc bb bf bs s T ln st fd long text ends rec) : CR (w.setCell ⟨bc, 1, none⟩ (.int .i64 (ln + 1))) B bc bb bf bs s T (ln + 1) st fd long text ends rec := by
  obtain ⟨n, xs, ho⟩ := h.lg
  exact { h with
    hc := Joins.block_setCell (i := 1) h.hc _
    rs := h.rs.upd (out1 h.cb) (out1 h.cf) (out1 h.cs)
    lg := ⟨n, xs, owns_upd ho fun k hk => heap_set_other _ (by exact (h.dl k hk).1)⟩ }

set_option maxRecDepth 100000 in
set_option maxHeartbeats 600000 in
/-- readLine at the text's end -/
theorem readLine_nil (B bc bb bf bs : Nat) (s : ByteArray) (ln st fd : Int) (long text ends rec : Value) (ea fa : Addr) (w : World) (h : CR w B bc bb bf bs s [] ln st fd long text ends rec) (he : Errs w B ea fa) :
    Calls Tryf.prog 34 #[.pointer (some ⟨bc, 0, none⟩)] w fun e w' => e = .returned (.tuple #[.slice none 0 0, errV ea]) ∧ CR w' B bc bb bf bs s [] ln st fd long text ends rec ∧ Upd [bb, bf, bs] w w' := by
  obtain ⟨c0, c1, c4, f1, f4⟩ := ccell h.hc
  have hB4 := he.b4
  have hBb := h.Bb
  have hBf := h.Bf
  have hBs := h.Bs
  have HC := hid h
  go_enter Tryf.func34, Tryf.ntmps34
  go_wp2_with fail
  go_fit (slice_any bb bf bs s [] ea fa _ (by exact h.rs) (by exact he.e) (by exact he.f) (by omega) (by omega) (by omega))
  rintro e w1 ⟨HU, v, ev, L, rfl, _, hL, hR, hcase⟩
  have hLe : L = [] ∧ ev = errV ea := by
    rcases hcase with ⟨l, h1, h2, h3, h4⟩ | ⟨h1, h2, h3, h4⟩ | ⟨h1, h2, h3, h4⟩
    · rw [h1] at h3; simp at h3
    · exact ⟨h1, h4⟩
    · rw [h1] at h3; simp at h3
  obtain ⟨hLL, hev⟩ := hLe
  rw [hLL] at hL hR
  obtain ⟨a, c, hv, _⟩ := hL
  have he1 := he.upd HU (by simp; omega)
  have e1 := he1.e
  have e2 := he1.f
  have q1 : (binOp .eql 55 (errV ea) (errV fa)).run Tryf.prog w1 = .ok (.bool false) w1 := eql_other he1.ne he1.re he1.rf
  have q2 : (binOp .eql 55 (errV ea) (errV ea)).run Tryf.prog w1 = .ok (.bool true) w1 := eql_same ea w1
  rw [hv, hev]
  clear hcase hv hev c0 c1 c4 f1 f4 hLL
  have HR := hid hR
  clear hR
  go_wp2
  go_quiet (fail)
  go_wp2
  go_ret2
  exact ⟨rfl, (h.step HU (by simp [h.cb, h.cf, h.cs]) (fun k hk => by have := h.dl k hk; simp [this]) HR.out).drewN _, HU.drewN _⟩

set_option maxRecDepth 100000 in
set_option maxHeartbeats 1000000 in
/-- readLine where the line fits the buffer, or the text's rest does -/
theorem readLine_short (B bc bb bf bs : Nat) (s : ByteArray) (T : List UInt8) (ln st fd : Int) (long text ends rec : Value) (ea fa : Addr) (w : World) (h : CR w B bc bb bf bs s T ln st fd long text ends rec) (he : Errs w B ea fa)
    (hT : T ≠ []) (hl0 : 0 ≤ ln) (hl1 : ln ≤ 4194304) (hshort : ¬ ((10 : UInt8) ∉ T.take 4096 ∧ 4096 ≤ T.length)) :
    Calls Tryf.prog 34 #[.pointer (some ⟨bc, 0, none⟩)] w fun e w' => ∃ v, e = .returned (.tuple #[v, .nilIface]) ∧ LineIn w' bf v (fl T) ∧ CR w' B bc bb bf bs s (T.drop (fl T).length) (ln + 1) st fd long text ends rec ∧ Upd [bc, bb, bf, bs] w w' := by
  obtain ⟨c0, c1, c4, f1, f4⟩ := ccell h.hc
  have hB4 := he.b4
  have hBb := h.Bb
  have hBf := h.Bf
  have hBs := h.Bs
  go_enter Tryf.func34, Tryf.ntmps34
  go_wp2_with fail
  go_fit (slice_any bb bf bs s T ea fa _ (by exact h.rs) (by exact he.e) (by exact he.f) (by omega) (by omega) (by omega))
  rintro e w1 ⟨HU, v, ev, L, rfl, _, hL, hR, hcase⟩
  have hLe : L = fl T ∧ (ev = errV ea ∨ ev = .nilIface) := by
    rcases hcase with ⟨l, h1, h2, h3, h4⟩ | ⟨h1, h2, h3, h4⟩ | ⟨h1, h2, h3, h4⟩
    · exact ⟨fl_case h1 h2 h3, .inr h4⟩
    · exact ⟨by rw [h1, fl_none T h2], .inl h4⟩
    · exfalso
      exact hshort ⟨by rw [← h1]; exact h2, by rw [h1] at h3; simp at h3; omega⟩
  obtain ⟨rfl, hev⟩ := hLe
  have hpos := fl_pos T hT
  have HL := hid hL
  obtain ⟨a, c, hv, _⟩ := hL
  have he1 := he.upd HU (by simp; omega)
  have e1 := he1.e
  have e2 := he1.f
  have q1 : (binOp .eql 55 (errV ea) (errV fa)).run Tryf.prog w1 = .ok (.bool false) w1 := eql_other he1.ne he1.re he1.rf
  have q2 : (binOp .eql 55 (errV ea) (errV ea)).run Tryf.prog w1 = .ok (.bool true) w1 := eql_same ea w1
  have q3 : (binOp .neq 55 (errV ea) (errV ea)).run Tryf.prog w1 = .ok (.bool false) w1 := neq_same ea w1
  have q4 := fun a => eql_nil a w1
  have hc1 := h.step HU (by simp [h.cb, h.cf, h.cs]) (fun k hk => by have := h.dl k hk; simp [this]) hR
  have HV := hid hv
  rw [hv]
  clear hcase hv c0 c1 c4 f1 f4 hR
  obtain ⟨c0, c1, c4, f1, f4⟩ := ccell hc1.hc
  have hn0 : (((fl T).length : Int) == 0) = false := by rw [beq_eq_false_iff_ne]; omega
  rcases hev with hev | hev
  · rw [hev]
    clear hev
    go_wp2
    go_ret2
    exact ⟨_, rfl, (LineIn_eq HV.out HL.out).upd (out1 h.cf), hc1.bump, (HU.mono (by simp)).setCell (by simp) _⟩
  · rw [hev]
    clear hev
    go_wp2
    go_ret2
    exact ⟨_, rfl, (LineIn_eq HV.out HL.out).upd (out1 h.cf), hc1.bump, (HU.mono (by simp)).setCell (by simp) _⟩
end Go.Proofs.Qxb6613956aFmt.W
