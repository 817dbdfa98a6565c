import Derived.Test.Qxb6613956aFmtHands
import Derived.Test.Qxb6613956aFmtLns
namespace Go.Proofs.Qxb6613956aFmt.W
open Go.RowKit

theorem info9b : (Tryf.prog.info? 9).map (fun i => (i.zero, i.size, i.bytes)) = some (some (.string ⟨#[]⟩), 1, 16) := by kernel_rfl

/-- a line as a string -/
def strV (l : List UInt8) : Value := .string ⟨l.toArray⟩

set_option maxRecDepth 100000 in
set_option maxHeartbeats 400000 in
theorem plain_some2 (B bc bb bf bs : Nat) (s : ByteArray) (T : List UInt8) (ln st fd : Int) (long text ends rec : Value) (ea fa : Addr) (w : World) (h : CR w B bc bb bf bs s T ln st fd long text ends rec) (he : Errs w B ea fa)
    (hT : T ≠ []) (hl0 : 0 ≤ ln) (hl1 : ln ≤ 4194304) :
    Calls Tryf.prog 23 #[.pointer (some ⟨bc, 0, none⟩)] w fun e w' => ∃ v long' b, e = .returned (.tuple #[v, .bool false, .bool false]) ∧ LineIn w' b v (fl T) ∧ CR w' B bc bb bf bs s (T.drop (fl T).length) (ln + 1) st fd long' text ends rec ∧ Upd ([bc, bb, bf, bs] ++ vb long) w w' ∧ (∀ k, k ∈ vb long' → k ∈ vb long ∨ w.heap.size ≤ k) := by
  go_enter Tryf.func23, Tryf.ntmps23
  go_wp2_with fail
  go_fit (readLine_any B bc bb bf bs s T ln st fd long text ends rec ea fa _ h he hT hl0 hl1)
  rintro e w1 ⟨v, long', b, rfl, h1, h2, h3, _, h5⟩
  have he1 := he.upd h3 h.sub
  have e1 := he1.e
  have q4 := fun a n => eql_nil a (w1.drewN n)
  have H5 := hid h5
  clear h5
  go_wp2
  go_quiet (fail)
  go_wp2
  go_ret3
  exact ⟨_, long', b, rfl, h1.upd rfl, h2.drewN _, h3.drewN _, H5.out⟩

/-- what zzAllLines keeps in its loop -/
structure AL (w wr : World) (bc bb bf bs : Nat) (s : ByteArray) (T' : List UInt8) (acc : List (List UInt8)) (ln : Int) (long out : Value) (ea fa : Addr) : Prop where
  cr : CR wr w.heap.size bc bb bf bs s T' ln 0 0 long (.slice none 0 0) (.slice none 0 0) (.slice none 0 0)
  ow : wr.ownsRow w.heap.size 9 1 out acc.length (acc.map strV)
  eq : acc ++ lns T' = lns s.data.toList
  ct : acc.length + T'.length ≤ s.size
  d1 : ∀ k, k ∈ vb out → k ∉ [bc, bb, bf, bs] ++ vb long
  er : Errs wr w.heap.size ea fa
  up : Upd [] w wr
  l0 : 0 ≤ ln
  l1 : ln ≤ acc.length

theorem conv_line0 {w : World} {b : Nat} {v : Value} {L : List UInt8} (h : LineIn w b v L) (h0 : 0 < L.length) : (convert 43 9 v).run Tryf.prog w = .ok (.string ⟨L.toArray⟩) w := conv_line h h0 0

set_option maxRecDepth 100000 in
set_option maxHeartbeats 1000000 in
theorem allLines_any (s : ByteArray) (ea fa : Addr) (w : World) (he : Errs w w.heap.size ea fa) (hs : s.size ≤ 1048600) :
    Calls Tryf.prog 25 #[.string s] w fun e w' => ∃ v, e = .returned (.tuple #[v, .bool true]) ∧ w'.ownsRow w.heap.size 9 1 v (lns s.data.toList).length ((lns s.data.toList).map strV) ∧ Upd [] w w' := by
  obtain ⟨i0, hi, hz0, hz1, hz2⟩ := info_parts info9b
  go_enter Tryf.func25, Tryf.ntmps25
  go_wp2_with (first | (go_at_call 12; go_fit (newReader_any s _ hs); rintro e w1 ⟨bc, bb, bf, bs, rfl, hcr, hu⟩))
  have he1 := he.upd hu (by simp)
  go_loopg [5, 6] (s.size + 2) (fun k t5 t6 wr => ∃ (T' : List UInt8) (acc : List (List UInt8)) (ln : Int) (long : Value), t6 = .int .i64 acc.length ∧ T'.length < k ∧ AL w wr bc bb bf bs s T' acc ln long t5 ea fa)
  case atStart => exact ⟨s.data.toList, [], 0, _, rfl, by rw [← Lib.size_eq]; omega, { cr := hcr, ow := World.ownsRow_nil _ _ _ _, eq := rfl, ct := by simp, d1 := fun k hk => by simp [vb] at hk, er := he1, up := hu, l0 := by omega, l1 := by simp }⟩
  case round =>
    clear hcr hu he1
    obtain ⟨T', acc, ln, long, rfl, hk, hal⟩ := hrel
    have hct := hal.ct
    have hl0 := hal.l0
    have hl1 := hal.l1
    have hle : (acc.length : Int) ≤ s.size := by omega
    by_cases hT : T' = []
    · have hcr := hal.cr
      rw [hT] at hcr
      go_wp2_with fail
      go_fit (plain_nil _ bc bb bf bs s ln 0 0 long _ _ _ ea fa _ hcr hal.er)
      rintro e w3 ⟨rfl, h2, h3⟩
      have hnil := nil_eql
      go_wp2
      go_ret2
      have heq := hal.eq
      rw [hT, lns, List.append_nil] at heq
      refine ⟨_, rfl, ?_, upd_widen hal.up h3 (fun k hk => .inr (hal.cr.sub k (by simp at hk ⊢; omega)))⟩
      rw [← heq]
      exact owns_upd hal.ow (fun k hk => h3.block k (owns_lt hal.ow k hk).1 (fun hm => hal.d1 k hk (by simp at hm ⊢; omega)))
    · have hfp := fl_pos T' hT
      have hfl := fl_le T'
      have hlns := lns_step T' hT
      have HLNS := hid hlns
      clear hlns
      go_wp2_with fail
      go_fit (plain_some2 _ bc bb bf bs s _ ln 0 0 long _ _ _ ea fa _ hal.cr hal.er hT hl0 (by omega))
      rintro e w3 ⟨v, long', b, rfl, h1, h2, h3, h4⟩
      have hcv := conv_line0 h1 hfp
      have ho3 := owns_upd hal.ow (fun k hk => h3.block k (owns_lt hal.ow k hk).1 (hal.d1 k hk))
      have hB3 := (hal.er.upd h3 hal.cr.sub).sz
      go_wp2_with (first | (at_builtin; refine wpList_app rfl (.tmp 31) (.tmp 34) 24 rfl w.heap.size 9 i0 (.string ⟨#[]⟩) 1 16 Tryf.underlying24 hi hz0 hz1 hz2 rfl (by decide) _ acc.length (acc.map strV) rfl (ho3.alloc _) ⟨w3.heap.size, 0, none⟩ 1 1 [.string ⟨(fl T').toArray⟩] rfl rfl (cell_one_new _ _ _) (by intro u hu; simp at hu; subst hu; rfl) (by omega) (by unfold maxLen; omega) (by omega) (by simp; omega) ?_; intro g4 cap4 w4 HO4 hu4 hg4))
      have hz3 := h3.size
      have hg4' : w.heap.size ≤ g4 ∧ (g4 ∈ vb u5 ∨ w3.heap.size ≤ g4) := by
        rcases hg4 with h | h
        · exact ⟨(owns_lt ho3 g4 h).2, .inl h⟩
        · have hh : w3.heap.size ≤ g4 := by rw [World.size_alloc] at h; omega
          exact ⟨by omega, .inr hh⟩
      have hup : Upd [] w w4 := upd_widen (upd_widen hal.up h3 (fun k hk => .inr (hal.cr.sub k hk))) (((Upd.refl _ w3).alloc _).trans hu4) (fun k hk => .inr (owns_lt ho3 k hk).2)
      have hu34 : Upd (vb u5) w3 w4 := ((Upd.refl _ w3).alloc _).trans hu4
      have hcr4 := h2.step hu34 (fun hm => hal.d1 bc hm (by simp)) (fun k hk hm => by
        rcases h4 k hk with h | h
        · exact hal.d1 k hm (by simp [h])
        · have := (owns_lt hal.ow k hm).1; omega) (h2.rs.upd (hu34.block bb h2.lts.2.1 (fun hm => hal.d1 bb hm (by simp))) (hu34.block bf h2.lts.2.2.1 (fun hm => hal.d1 bf hm (by simp))) (hu34.block bs h2.lts.2.2.2 (fun hm => hal.d1 bs hm (by simp))))
      have hlts := h2.lts
      go_roundg (gk - 1)
      case measure => omega
      case rel =>
        refine ⟨T'.drop (fl T').length, acc ++ [fl T'], ln + 1, long', by simp, by simp; omega, { cr := hcr4, ow := ?_, eq := ?_, ct := by simp; omega, d1 := ?_, er := (hal.er.upd h3 hal.cr.sub).upd hu34 (fun k hk => (owns_lt ho3 k hk).2), up := hup, l0 := by omega, l1 := by simp; omega }⟩
        · have e1 : (acc ++ [fl T']).length = acc.length + 1 := by simp
          have e2 : (acc ++ [fl T']).map strV = acc.map strV ++ [.string ⟨(fl T').toArray⟩] := by simp [strV]
          rw [e1, e2]; exact HO4
        · rw [List.append_assoc, List.singleton_append, ← HLNS.out]; exact hal.eq
        · intro k hk
          simp only [vb, List.mem_singleton] at hk
          subst hk
          rcases hg4'.2 with h | h
          · intro hm
            rcases List.mem_append.1 hm with hm | hm
            · exact hal.d1 _ h (List.mem_append_left _ hm)
            · rcases h4 _ hm with h6 | h6
              · exact hal.d1 _ h (List.mem_append_right _ h6)
              · have := (owns_lt hal.ow _ h).1; omega
          · intro hm
            rcases List.mem_append.1 hm with hm | hm
            · simp at hm; omega
            · obtain ⟨n6, xs6, ho6⟩ := h2.lg
              have := (owns_lt ho6 _ hm).1; omega
end Go.Proofs.Qxb6613956aFmt.W
