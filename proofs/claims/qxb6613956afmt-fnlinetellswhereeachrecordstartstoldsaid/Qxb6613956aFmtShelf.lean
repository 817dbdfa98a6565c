/-
  DERIVED: THE SHELF's CONTRACTS AT THIS DUMP, IN PLAIN WORDS (tools/lay-plain.mjs out of 'TryfShelf.lean', which tools/lay-shelf.mjs wrote): THE SAME DECLARATIONS UNDER THE SAME NAMES: 'import', 'namespace', 'open', 'def', 'theorem' AND NOTHING ELSE: no command of the shelf's: FOR A HAND-IN. Each laying: the table of numbers ('.._ren') and one theorem, a field a fact of the dump's own or the kernel's comparison; each contract: ONE APPLICATION.
-/
import Derived.Shelf.Bytes.SlIndexAt
import Derived.Shelf.Bytes.IndexByte
import Derived.Test.Qxb6613956aFmtProg
namespace Go.Proofs
open Go.Shelf
def Tryf.lays187_ren : Go.Shelf.Ren := ⟨fun | 187 => 53 | 255 => 73 | n => n, fun | 37 => 43 | 5 => 5 | 3 => 3 | n => n, fun | n => n⟩
theorem Tryf.lays187 : Go.Proofs.Lays.n187 Tryf.prog Tryf.lays187_ren := {
  mixed := by kernel_rfl
  f187 := Tryf.func53.trans (congrArg some (by kernel_rfl))
  f255 := Tryf.func73.trans (congrArg some (by kernel_rfl))
  t3 := Tryf.underlying3
  a3 := Tryf.isAgg3
  z3 := Tryf.sizeOf3
  v3 := Tryf.zeroValue3
  t5 := Tryf.underlying5
  a5 := Tryf.isAgg5
  z5 := Tryf.sizeOf5
  v5 := Tryf.zeroValue5
  t37 := Tryf.underlying43
  a37 := Tryf.isAgg43
  z37 := Tryf.sizeOf43
  v37 := Tryf.zeroValue43 }
open Go.RowKit Go.Lib in
/-- bytes.IndexByte, b at whatever address: "IndexByte returns the index of the first instance of c in b, or -1 if c is not present in b." (LAID: no walk: one application.) -/
theorem Tryf.bytes_IndexByte_at (a : Addr) (n c : Nat) (xs : List Int) (cv : Int) (w : World) (hx : xs.length = n) (hc : ∀ i, i < n → w.cell? (a.add i) = some (.int .u8 (xs.getD i 0))) :
    Calls Tryf.prog 53 #[.slice (some a) n c, .int .u8 cv] w fun e w' => e = .returned (.int .i64 (Lib.indexByte (Lib.bytesOf xs) cv.toNat.toUInt8)) ∧ w' = w := Any.bytes_IndexByte_at Tryf.lays187 a n c xs cv w hx hc
/-- bytes.IndexByte AT nil: -1. (LAID: no walk: one application.) -/
theorem Tryf.bytes_IndexByte_nil (cv : Int) (w : World) :
    Calls Tryf.prog 53 #[.slice none 0 0, .int .u8 cv] w fun e w' => e = .returned (.int .i64 (-1)) ∧ w' = w := Any.bytes_IndexByte_nil Tryf.lays187 cv w
end Go.Proofs
