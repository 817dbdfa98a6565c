/-
  DERIVED: THE SHELF's CONTRACTS AT THIS DUMP, IN PLAIN WORDS (tools/lay-plain.mjs out of 'TryfShelf.lean', which tools/lay-shelf.mjs wrote): THE SAME DECLARATIONS UNDER THE SAME NAMES: 'import', 'namespace', 'open', 'def', 'theorem' AND NOTHING ELSE: no command of the shelf's: FOR A HAND-IN. Each laying: the table of numbers ('.._ren') and one theorem, a field a fact of the dump's own or the kernel's comparison; each contract: ONE APPLICATION.
-/
import Derived.Shelf.Bytes.SlIndexAt
import Derived.Shelf.Bytes.SlSmallAll
import Derived.Test.Qxb6613956aFmtProg
namespace Go.Proofs
open Go.Shelf
def Tryf.lays185_ren : Go.Shelf.Ren := ⟨fun | 185 => 72 | 187 => 53 | 115 => 84 | 253 => 85 | 224 => 76 | 254 => 86 | 255 => 73 | 291 => 91 | n => n, fun | 37 => 43 | 3 => 3 | 4 => 4 | 0 => 0 | 5 => 5 | 46 => 135 | 9 => 9 | 146 => 147 | 51 => 146 | n => n, fun | 1 => 5 | n => n⟩
theorem Tryf.lays185 : Go.Proofs.Lays.n185 Tryf.prog Tryf.lays185_ren := {
  mixed := by kernel_rfl
  f115 := Tryf.func84.trans (congrArg some (by kernel_rfl))
  f185 := Tryf.func72.trans (congrArg some (by kernel_rfl))
  f187 := Tryf.func53.trans (congrArg some (by kernel_rfl))
  f224 := Tryf.func76.trans (congrArg some (by kernel_rfl))
  f253 := Tryf.func85.trans (congrArg some (by kernel_rfl))
  f254 := Tryf.func86.trans (congrArg some (by kernel_rfl))
  f255 := Tryf.func73.trans (congrArg some (by kernel_rfl))
  f291 := Tryf.func91.trans (congrArg some (by kernel_rfl))
  t0 := Tryf.underlying0
  a0 := Tryf.isAgg0
  z0 := Tryf.sizeOf0
  v0 := Tryf.zeroValue0
  t3 := Tryf.underlying3
  a3 := Tryf.isAgg3
  z3 := Tryf.sizeOf3
  v3 := Tryf.zeroValue3
  t4 := Tryf.underlying4
  a4 := Tryf.isAgg4
  z4 := Tryf.sizeOf4
  v4 := Tryf.zeroValue4
  t5 := Tryf.underlying5
  a5 := Tryf.isAgg5
  z5 := Tryf.sizeOf5
  v5 := Tryf.zeroValue5
  t9 := Tryf.underlying9
  a9 := Tryf.isAgg9
  z9 := Tryf.sizeOf9
  v9 := Tryf.zeroValue9
  t37 := Tryf.underlying43
  a37 := Tryf.isAgg43
  z37 := Tryf.sizeOf43
  v37 := Tryf.zeroValue43
  t46 := Tryf.underlying135
  a46 := Tryf.isAgg135
  z46 := Tryf.sizeOf135
  v46 := Tryf.zeroValue135
  t51 := Tryf.underlying146
  a51 := Tryf.isAgg146
  z51 := Tryf.sizeOf146
  v51 := Tryf.zeroValue146
  t146 := Tryf.underlying147
  a146 := Tryf.isAgg147
  z146 := Tryf.sizeOf147
  v146 := Tryf.zeroValue147
  g1 := by kernel_rfl }
open Go.RowKit Go.Lib in
/-- bytes.Index at a separator of one byte, s at whatever address. (LAID: no walk: one application.) -/
theorem Tryf.bytes_Index_one_at (a : Addr) (n c b2 o2 d : Nat) (xs : List Int) (cv : Int) (w : World) (hx : xs.length = n) (hc : ∀ i, i < n → w.cell? (a.add i) = some (.int .u8 (xs.getD i 0))) (hc2 : w.cell? ⟨b2, o2, none⟩ = some (.int .u8 cv)) :
    Calls Tryf.prog 72 #[.slice (some a) n c, .slice (some ⟨b2, o2, none⟩) 1 d] w fun e w' => e = .returned (.int .i64 (Lib.indexByte (Lib.bytesOf xs) cv.toNat.toUInt8)) ∧ w' = w := Any.bytes_Index_one_at Tryf.lays185 a n c b2 o2 d xs cv w hx hc hc2
def Tryf.laysnb142_ren : Go.Shelf.Ren := ⟨fun | 142 => 51 | 117 => 71 | 115 => 84 | n => n, fun | 37 => 43 | 4 => 4 | 3 => 3 | 9 => 9 | 5 => 5 | n => n, fun | n => n⟩
theorem Tryf.laysnb142 : Go.Proofs.Lays.nb142 Tryf.prog Tryf.laysnb142_ren := {
  mixed := by kernel_rfl
  f115 := Tryf.func84.trans (congrArg some (by kernel_rfl))
  f117 := Tryf.func71.trans (congrArg some (by kernel_rfl))
  f142 := Tryf.func51.trans (congrArg some (by kernel_rfl))
  t3 := Tryf.underlying3
  a3 := Tryf.isAgg3
  z3 := Tryf.sizeOf3
  v3 := Tryf.zeroValue3
  t4 := Tryf.underlying4
  a4 := Tryf.isAgg4
  z4 := Tryf.sizeOf4
  v4 := Tryf.zeroValue4
  t9 := Tryf.underlying9
  a9 := Tryf.isAgg9
  z9 := Tryf.sizeOf9
  v9 := Tryf.zeroValue9
  t37 := Tryf.underlying43
  a37 := Tryf.isAgg43
  z37 := Tryf.sizeOf43
  v37 := Tryf.zeroValue43
  t5 := Tryf.underlying5
  a5 := Tryf.isAgg5
  z5 := Tryf.sizeOf5
  v5 := Tryf.zeroValue5 }
/-- bytes.CutSuffix: WHOLE. (LAID: no walk: one application.) -/
theorem Tryf.bytes_CutSuffix_all (p1 p2 : Option Addr) (n c m d : Nat) (xs ys : List Int) (w : World) (hx : xs.length = n) (hy : ys.length = m) (hnc : n ≤ c) (hbig : n ≤ 9223372036854775807) (h1 : Lib.BytesIn w p1 n xs) (h2 : Lib.BytesIn w p2 m ys) :
    Calls Tryf.prog 51 #[.slice p1 n c, .slice p2 m d] w fun e w' => e = .returned (.tuple #[Lib.trimSuffixV p1 n c xs ys, .bool (Lib.hasSuffix (Lib.bytesOf xs) (Lib.bytesOf ys))]) ∧ w' = w := Any.bytes_CutSuffix_all Tryf.laysnb142 p1 p2 n c m d xs ys w hx hy hnc hbig h1 h2
end Go.Proofs
