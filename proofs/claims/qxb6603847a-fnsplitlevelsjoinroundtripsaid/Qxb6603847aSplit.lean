import Derived.Test.Qxb6603847aClass
import Derived.Laws.AppendOwn
namespace Go.Proofs.Qxb6603847a.S
open Go.RowKit

theorem info9 : (Try.prog.info? 9).map (fun i => (i.zero, i.size, i.bytes)) = some (some (.string ⟨#[]⟩), 1, 16) := by kernel_rfl

/-- a piece as a string -/
def strV (l : List UInt8) : Value := .string ⟨l.toArray⟩

/-- what splitLevels keeps in its loop -/
structure SL (w wr : World) (s : ByteArray) (acc : List (List UInt8)) (start : Nat) (v : Value) : Prop where
  ow : wr.ownsRow w.heap.size 9 1 v acc.length (acc.map strV)
  be : Below w.heap.size w wr
  cu : Cut s.data.toList acc start

theorem SL.al {w wr : World} {s : ByteArray} {acc : List (List UInt8)} {start : Nat} {v : Value} (h : SL w wr s acc start v) : acc.length ≤ s.size := by
  have h1 := h.cu.ct
  have h2 : (s.data.toList.take start).count 47 ≤ (s.data.toList.take start).length := List.count_le_length
  have h3 := h.cu.le
  rw [List.length_take] at h2
  rw [Lib.size_eq]
  omega

theorem own_ge {w : World} {B e size : Nat} {v : Value} {n : Nat} {xs : List Value} (h : w.ownsRow B e size v n xs) (k : Nat) (hk : v.ownBlock = some k) : B ≤ k := by
  rcases h.2 with ⟨rfl, _⟩ | ⟨g, cap, cur, rfl, hg, _⟩
  · simp [Value.ownBlock] at hk
  · simp [Value.ownBlock] at hk; omega

theorem ext_eq (s : ByteArray) (a b : Nat) : s.extract a b = ⟨((s.data.toList.drop a).take (b - a)).toArray⟩ := by
  apply ByteArray.ext
  apply Array.ext'
  rw [Lib.extract_data]

theorem byte_is {b : UInt8} {n : UInt8} (h : ((b.toNat : Int) == (n.toNat : Int)) = true) : b = n := by
  have h2 : (b.toNat : Int) = (n.toNat : Int) := by simpa using h
  exact UInt8.toNat_inj.1 (Int.ofNat.inj h2)

theorem SL.cut {w wr w4 : World} {s : ByteArray} {acc : List (List UInt8)} {start i : Nat} {v v4 : Value} {o : Obj} (h : SL w wr s acc start v) (hsi : start ≤ i) (hlt : i < s.size) (hc : ((s[i].toNat : Int) == 47) = true)
    (ho : w4.ownsRow w.heap.size 9 1 v4 (acc.length + 1) (acc.map strV ++ [.string (s.extract start i)])) (hg : (wr.alloc o).grownBy w4 v.ownBlock) : SL w w4 s (acc ++ [(s.data.toList.drop start).take (i - start)]) (i + 1) v4 := by
  have hz := h.be.size
  refine { ow := ?_, be := (h.be.alloc hz o).grown hg (by simp; omega) (fun k hk => own_ge h.ow k hk), cu := h.cu.step hsi (by rw [← Lib.size_eq]; exact hlt) (byte_is (n := 47) hc) }
  rw [ext_eq] at ho
  simpa [strV] using ho

set_option maxRecDepth 100000 in
set_option maxHeartbeats 2000000 in
theorem split_any (s : ByteArray) (m : Int) (w : World) (hs : s.size ≤ 65536) (hm : w.cell? ⟨0, 0, none⟩ = some (.int .i64 m)) :
    Calls Try.prog 11 #[.string s] w fun e w' => ∃ v acc start, e = .returned v ∧ Cut s.data.toList acc start ∧ w'.ownsRow w.heap.size 9 1 v (acc.length + 1) ((acc ++ [s.data.toList.drop start]).map strV) ∧ Below w.heap.size w w' := by
  obtain ⟨i0, hi0, hz0, hz1, hz2⟩ := info_parts info9
  have hsI : (s.size : Int) ≤ 65536 := by omega
  go_enter Try.func11, Try.ntmps11
  go_wp2_with fail
  go_loopg [3, 4, 5, 6] (s.size + 4) (fun k t3 t4 t5 t6 wr => ∃ (acc : List (List UInt8)) (start i : Nat) (d : Int), t4 = .int .i64 start ∧ t5 = .int .i64 d ∧ t6 = .int .i64 i ∧ start ≤ i ∧ i ≤ s.size + 1 ∧ -(i : Int) ≤ d ∧ d ≤ i ∧ s.size + 3 - i < k ∧ SL w wr s acc start t3)
  case atStart => exact ⟨[], 0, 0, 0, rfl, rfl, rfl, by omega, by omega, by omega, by omega, by omega, { ow := World.ownsRow_nil _ _ _ _, be := Below.refl _ _, cu := Cut.zero _ }⟩
  case round =>
    obtain ⟨acc, start, i, d, rfl, rfl, rfl, hsi, his, hd1, hd2, hk, hsl⟩ := hrel
    have hal := hsl.al
    have hst := hsl.cu.le
    rw [← Lib.size_eq] at hst
    have hm2 : wr.cell? ⟨0, 0, none⟩ = some (.int .i64 m) := (hsl.be.cell (World.block_lt_of_cell? _ _ hm)).trans hm
    have HSL := hid hsl
    clear hsl
    by_cases hlt : i < s.size
    · have hltI : (i : Int) < s.size := by omega
      cases e1 : ((s[i].toNat : Int) == 92)
      · cases e2 : ((s[i].toNat : Int) == 91)
        · cases e3 : ((s[i].toNat : Int) == 40)
          · cases e4 : ((s[i].toNat : Int) == 41)
            · cases e5 : ((s[i].toNat : Int) == 47)
              · go_wp2_with fail
                go_roundg (gk - 1)
                case measure => omega
                case rel => exact ⟨acc, start, i + 1, d, rfl, rfl, by simp, by omega, by omega, by omega, by omega, by omega, HSL.out⟩
              · by_cases hd0 : d = 0
                · subst hd0
                  have hsiI : (start : Int) ≤ i := by omega
                  go_wp2_with (first | (at_builtin; refine wpList_append_own _ rfl (.tmp 56) (.tmp 61) 23 rfl w.heap.size 9 i0 (.string ⟨#[]⟩) 1 16 Try.underlying23 hi0 hz0 hz1 hz2 rfl (by decide) _ acc.length (acc.map strV) rfl (HSL.out.ow.alloc _) ⟨wr.heap.size, 0, none⟩ 1 1 [.string (s.extract start i)] rfl rfl (cell_one_new _ _ _) (by intro u hu; simp at hu; subst hu; rfl) (by unfold maxLen; omega) (by omega) (by simp; have := HSL.out.be.size; omega) ?_; intro v4 w4 HO4 HG4 _))
                  go_roundg (gk - 1)
                  case measure => omega
                  case rel => exact ⟨acc ++ [(s.data.toList.drop start).take (i - start)], i + 1, i + 1, 0, by simp, rfl, by simp, by omega, by omega, by omega, by omega, by omega, HSL.out.cut hsi hlt e5 HO4 HG4⟩
                · have hd3 : (d == 0) = false := by simp [hd0]
                  go_wp2_with fail
                  go_roundg (gk - 1)
                  case measure => omega
                  case rel => exact ⟨acc, start, i + 1, d, rfl, rfl, by simp, by omega, by omega, by omega, by omega, by omega, HSL.out⟩
            · go_wp2_with fail
              go_roundg (gk - 1)
              case measure => omega
              case rel => exact ⟨acc, start, i + 1, d - 1, rfl, rfl, by simp, by omega, by omega, by omega, by omega, by omega, HSL.out⟩
          · go_wp2_with fail
            go_roundg (gk - 1)
            case measure => omega
            case rel => exact ⟨acc, start, i + 1, d + 1, rfl, rfl, by simp, by omega, by omega, by omega, by omega, by omega, HSL.out⟩
        · go_wp2_with fail
          go_fit (classEnd_any s i m _ hs hlt hm2)
          rintro e w' ⟨⟨r, rfl, hr1, hr2⟩, rfl⟩
          go_wp2_with fail
          go_roundg (gk - 1)
          case measure => omega
          case rel => exact ⟨acc, start, r + 1, d, rfl, rfl, by simp, by omega, by omega, by omega, by omega, by omega, HSL.out⟩
      · go_wp2_with fail
        have hq := Try.strings_HasPrefix (s.extract i s.size) ⟨#[92, 81]⟩ wr
        generalize hpv : Lib.hasPrefix (s.extract i s.size).data.toList (⟨#[92, 81]⟩ : ByteArray).data.toList = pv at hq
        go_fit hq
        rintro e w' ⟨rfl, rfl⟩
        clear hq
        cases pv
        · clear hpv
          go_wp2_with fail
          go_roundg (gk - 1)
          case measure => omega
          case rel => exact ⟨acc, start, i + 2, d, rfl, rfl, by simp; omega, by omega, by omega, by omega, by omega, by omega, HSL.out⟩
        · have hfit := prefix_fit _ _ hpv
          rw [ext_len s i (by omega), two] at hfit
          clear hpv
          have hf2 : (i : Int) + 2 ≤ s.size := by omega
          go_wp2_with fail
          have hq := Try.strings_Index (s.extract (i + 2) s.size) ⟨#[92, 69]⟩ m _ (by rw [Lib.size_eq, ext_len s (i + 2) (by omega)]; omega) hm2
          have hx1 := Lib.index_ge (s.extract (i + 2) s.size).data.toList (⟨#[92, 69]⟩ : ByteArray).data.toList
          have hx2 := index_fit (s.extract (i + 2) s.size).data.toList (⟨#[92, 69]⟩ : ByteArray).data.toList
          rw [ext_len s (i + 2) (by omega), two] at hx2
          generalize Lib.index (s.extract (i + 2) s.size).data.toList (⟨#[92, 69]⟩ : ByteArray).data.toList = x at hq hx1 hx2
          go_fit hq
          rintro e w' ⟨rfl, rfl⟩
          clear hq
          by_cases hx0 : 0 ≤ x
          · have hx3 := hx2 hx0
            clear hx2
            have hx4 : x ≤ 65536 := by omega
            go_wp2_with fail
            go_roundg (gk - 1)
            case measure => omega
            case rel => exact ⟨acc, start, i + 2 + x.toNat + 1 + 1, d, rfl, rfl, by go_num, by omega, by omega, by omega, by omega, by omega, HSL.out⟩
          · clear hx2
            have hx5 : x < 0 := by omega
            go_wp2_with fail
            go_roundg (gk - 1)
            case measure => omega
            case rel => exact ⟨acc, start, s.size + 1, d, rfl, rfl, by simp, by omega, by omega, by omega, by omega, by omega, HSL.out⟩
    · have hstI : (start : Int) ≤ s.size := by omega
      go_wp2_with (first | (at_builtin; refine wpList_append_own _ rfl (.tmp 65) (.tmp 69) 23 rfl w.heap.size 9 i0 (.string ⟨#[]⟩) 1 16 Try.underlying23 hi0 hz0 hz1 hz2 rfl (by decide) _ acc.length (acc.map strV) rfl (HSL.out.ow.alloc _) ⟨wr.heap.size, 0, none⟩ 1 1 [.string (s.extract start s.size)] rfl rfl (cell_one_new _ _ _) (by intro u hu; simp at hu; subst hu; rfl) (by unfold maxLen; omega) (by omega) (by simp; have := HSL.out.be.size; omega) ?_; intro v4 w4 HO4 HG4 _))
      go_ret
      have hz := HSL.out.be.size
      refine ⟨_, acc, start, rfl, HSL.out.cu, ?_, (HSL.out.be.alloc hz _).grown HG4 (by simp; omega) (fun k hk => own_ge HSL.out.ow k hk)⟩
      rw [ext_eq, List.take_of_length_le (by rw [List.length_drop, ← Lib.size_eq]; omega)] at HO4
      simpa [strV] using HO4
end Go.Proofs.Qxb6603847a.S
