/-
  DERIVED: THE SHELF's CONTRACTS AT THIS DUMP, IN PLAIN WORDS (tools/lay-plain.mjs out of 'TryShelf.lean', which tools/lay-shelf.mjs wrote): THE SAME DECLARATIONS UNDER THE SAME NAMES: 'import', 'namespace', 'open', 'def', 'theorem' AND NOTHING ELSE: no command of the shelf's: FOR A HAND-IN. Each laying: the table of numbers ('.._ren') and one theorem, a field a fact of the dump's own or the kernel's comparison; each contract: ONE APPLICATION.
-/
import Derived.Shelf.Strings.Search1
import Derived.Shelf.Strings.Search2
import Derived.Shelf.Strings.Search3
import Derived.Shelf.LaysM
import Derived.Shelf.Strings.Shaped
import Derived.Shelf.Strings.Prefix
import Derived.Test.Qxb6603847aProg
namespace Go.Proofs
open Go.Shelf
def Try.lays217_ren : Go.Shelf.Ren := ⟨fun | 217 => 17 | 266 => 21 | n => n, fun | 9 => 9 | 5 => 5 | 3 => 3 | n => n, fun | n => n⟩
theorem Try.lays217 : Go.Proofs.Lays.n217 Try.prog Try.lays217_ren := {
  mixed := by kernel_rfl
  f217 := Try.func17.trans (congrArg some (by kernel_rfl))
  f266 := Try.func21.trans (congrArg some (by kernel_rfl))
  t3 := Try.underlying3
  a3 := Try.isAgg3
  z3 := Try.sizeOf3
  v3 := Try.zeroValue3
  t5 := Try.underlying5
  a5 := Try.isAgg5
  z5 := Try.sizeOf5
  v5 := Try.zeroValue5
  t9 := Try.underlying9
  a9 := Try.isAgg9
  z9 := Try.sizeOf9
  v9 := Try.zeroValue9 }
open Go.RowKit Go.Lib in
/-- internal/stringslite.IndexByte (what strings.IndexByte calls): IT RETURNS 'Lib.indexByte s c'; the world is as it was. (LAID: no walk: one application.) -/
theorem Try.stringslite_IndexByte (s : ByteArray) (c : Int) (w : World) :
    Calls Try.prog 17 #[.string s, .int .u8 c] w fun e w' => e = .returned (.int .i64 (Lib.indexByte s.data.toList c.toNat.toUInt8)) ∧ w' = w := Any.stringslite_IndexByte Try.lays217 s c w
def Try.lays224_ren : Go.Shelf.Ren := ⟨fun | 224 => 19 | n => n, fun | 3 => 3 | n => n, fun | n => n⟩
theorem Try.lays224 : Go.Proofs.Lays.n224 Try.prog Try.lays224_ren := {
  mixed := by kernel_rfl
  f224 := Try.func19.trans (congrArg some (by kernel_rfl))
  t3 := Try.underlying3
  a3 := Try.isAgg3
  z3 := Try.sizeOf3
  v3 := Try.zeroValue3 }
open Go.RowKit Go.Lib in
/-- internal/bytealg.Cutover: "Cutover reports the number of failures of IndexByte we should tolerate before switching over to Index. n is the number of bytes processed so far.": on amd64: (n + 16) / 8. (LAID: no walk: one application.) -/
theorem Try.bytealg_Cutover (n : Int) (h0 : 0 ≤ n) (h1 : n < 4611686018427387904) (w : World) :
    Calls Try.prog 19 #[.int .i64 n] w fun e w' => e = .returned (.int .i64 ((n + 16) / 8)) ∧ w' = w := Any.bytealg_Cutover Try.lays224 n h0 h1 w
def Try.lays314_ren : Go.Shelf.Ren := ⟨fun | 314 => 22 | n => n, fun | 9 => 9 | 51 => 34 | 3 => 3 | 4 => 4 | 5 => 5 | 46 => 33 | n => n, fun | n => n⟩
theorem Try.lays314 : Go.Proofs.Lays.n314 Try.prog Try.lays314_ren := {
  mixed := by kernel_rfl
  f314 := Try.func22.trans (congrArg some (by kernel_rfl))
  t3 := Try.underlying3
  a3 := Try.isAgg3
  z3 := Try.sizeOf3
  v3 := Try.zeroValue3
  t4 := Try.underlying4
  a4 := Try.isAgg4
  z4 := Try.sizeOf4
  v4 := Try.zeroValue4
  t5 := Try.underlying5
  a5 := Try.isAgg5
  z5 := Try.sizeOf5
  v5 := Try.zeroValue5
  t9 := Try.underlying9
  a9 := Try.isAgg9
  z9 := Try.sizeOf9
  v9 := Try.zeroValue9
  t46 := Try.underlying33
  a46 := Try.isAgg33
  z46 := Try.sizeOf33
  v46 := Try.zeroValue33
  t51 := Try.underlying34
  a51 := Try.isAgg34
  z51 := Try.sizeOf34
  v51 := Try.zeroValue34 }
open Go.RowKit Go.Lib in
/-- hashStr: "returns the hash and the appropriate multiplicative factor for use in Rabin-Karp algorithm": THE HASH OF ALL OF sep, AND 16777619 ^ len(sep), both in uint32. (LAID: no walk: one application.) -/
theorem Try.bytealg_hashStr (sep : ByteArray) (hs : sep.size < 4294967281) (w : World) :
    Calls Try.prog 22 #[.string sep] w fun e w' => e = .returned (.tuple #[.int .u32 (RK.H sep.data.toList % 4294967296), .int .u32 (16777619 ^ sep.size % 4294967296)]) ∧ w' = w := Any.bytealg_hashStr Try.lays314 sep hs w
def Try.lays267_ren : Go.Shelf.Ren := ⟨fun | 267 => 20 | 314 => 22 | n => n, fun | 9 => 9 | 3 => 3 | 146 => 35 | 51 => 34 | 4 => 4 | 5 => 5 | 46 => 33 | n => n, fun | n => n⟩
theorem Try.lays267 : Go.Proofs.Lays.n267 Try.prog Try.lays267_ren := {
  mixed := by kernel_rfl
  f267 := Try.func20.trans (congrArg some (by kernel_rfl))
  f314 := Try.func22.trans (congrArg some (by kernel_rfl))
  t3 := Try.underlying3
  a3 := Try.isAgg3
  z3 := Try.sizeOf3
  v3 := Try.zeroValue3
  t4 := Try.underlying4
  a4 := Try.isAgg4
  z4 := Try.sizeOf4
  v4 := Try.zeroValue4
  t5 := Try.underlying5
  a5 := Try.isAgg5
  z5 := Try.sizeOf5
  v5 := Try.zeroValue5
  t9 := Try.underlying9
  a9 := Try.isAgg9
  z9 := Try.sizeOf9
  v9 := Try.zeroValue9
  t46 := Try.underlying33
  a46 := Try.isAgg33
  z46 := Try.sizeOf33
  v46 := Try.zeroValue33
  t51 := Try.underlying34
  a51 := Try.isAgg34
  z51 := Try.sizeOf34
  v51 := Try.zeroValue34
  t146 := Try.underlying35
  a146 := Try.isAgg35
  z146 := Try.sizeOf35
  v146 := Try.zeroValue35 }
open Go.RowKit Go.Lib in
theorem Try.bytealg_IndexRabinKarp (s sep : ByteArray) (h1 : 1 ≤ sep.size) (h2 : sep.size ≤ s.size) (hs : s.size < 4294967281) (w : World) :
    Calls Try.prog 20 #[.string s, .string sep] w fun e w' => e = .returned (.int .i64 (Lib.index s.data.toList sep.data.toList)) ∧ w' = w := Any.bytealg_IndexRabinKarp Try.lays267 s sep h1 h2 hs w
def Try.lays219_ren : Go.Shelf.Ren := ⟨fun | 219 => 16 | 217 => 17 | 225 => 18 | 224 => 19 | 267 => 20 | 266 => 21 | 314 => 22 | n => n, fun | 9 => 9 | 3 => 3 | 4 => 4 | 5 => 5 | 46 => 33 | 146 => 35 | 51 => 34 | n => n, fun | 1 => 0 | n => n⟩
theorem Try.lays219 : Go.Proofs.Lays.n219 Try.prog Try.lays219_ren := {
  mixed := by kernel_rfl
  f217 := Try.func17.trans (congrArg some (by kernel_rfl))
  f219 := Try.func16.trans (congrArg some (by kernel_rfl))
  f224 := Try.func19.trans (congrArg some (by kernel_rfl))
  f225 := Try.func18.trans (congrArg some (by kernel_rfl))
  f266 := Try.func21.trans (congrArg some (by kernel_rfl))
  f267 := Try.func20.trans (congrArg some (by kernel_rfl))
  f314 := Try.func22.trans (congrArg some (by kernel_rfl))
  t3 := Try.underlying3
  a3 := Try.isAgg3
  z3 := Try.sizeOf3
  v3 := Try.zeroValue3
  t4 := Try.underlying4
  a4 := Try.isAgg4
  z4 := Try.sizeOf4
  v4 := Try.zeroValue4
  t5 := Try.underlying5
  a5 := Try.isAgg5
  z5 := Try.sizeOf5
  v5 := Try.zeroValue5
  t9 := Try.underlying9
  a9 := Try.isAgg9
  z9 := Try.sizeOf9
  v9 := Try.zeroValue9
  t46 := Try.underlying33
  a46 := Try.isAgg33
  z46 := Try.sizeOf33
  v46 := Try.zeroValue33
  t51 := Try.underlying34
  a51 := Try.isAgg34
  z51 := Try.sizeOf34
  v51 := Try.zeroValue34
  t146 := Try.underlying35
  a146 := Try.isAgg35
  z146 := Try.sizeOf35
  v146 := Try.zeroValue35
  g1 := by kernel_rfl }
open Go.RowKit Go.Lib in
/-- internal/stringslite.Index (what strings.Index calls) AT A substr OF ONE BYTE c: IT RETURNS 'Lib.indexByte s c'; the world is as it was. (LAID: no walk: one application.) -/
theorem Try.stringslite_Index_one (s : ByteArray) (c : UInt8) (w : World) :
    Calls Try.prog 16 #[.string s, .string ⟨#[c]⟩] w fun e w' => e = .returned (.int .i64 (Lib.indexByte s.data.toList c)) ∧ w' = w := Any.stringslite_Index_one Try.lays219 s c w
open Go.RowKit Go.Lib in
/-- internal/stringslite.Index (what strings.Index calls) AT A substr OF WHATEVER LENGTH: IT RETURNS 'Lib.index s substr'; the world is as it was. 'm': what internal/bytealg.MaxLen holds: whatever. (LAID: no walk: one application.) -/
theorem Try.stringslite_Index (s sub : ByteArray) (m : Int) (w : World) (hs : s.size < 4294967281) (hm : w.cell? ⟨0, 0, none⟩ = some (.int .i64 m)) :
    Calls Try.prog 16 #[.string s, .string sub] w fun e w' => e = .returned (.int .i64 (Lib.index s.data.toList sub.data.toList)) ∧ w' = w := Any.stringslite_Index Try.lays219 s sub m w hs hm
def Try.lays143_ren : Go.Shelf.Ren := ⟨fun | 143 => 14 | 219 => 16 | 217 => 17 | 225 => 18 | 224 => 19 | 267 => 20 | 266 => 21 | 314 => 22 | n => n, fun | 9 => 9 | 3 => 3 | 4 => 4 | 5 => 5 | 46 => 33 | 146 => 35 | 51 => 34 | n => n, fun | 1 => 0 | n => n⟩
theorem Try.lays143 : Go.Proofs.Lays.n143 Try.prog Try.lays143_ren := {
  mixed := by kernel_rfl
  f143 := Try.func14.trans (congrArg some (by kernel_rfl))
  f217 := Try.func17.trans (congrArg some (by kernel_rfl))
  f219 := Try.func16.trans (congrArg some (by kernel_rfl))
  f224 := Try.func19.trans (congrArg some (by kernel_rfl))
  f225 := Try.func18.trans (congrArg some (by kernel_rfl))
  f266 := Try.func21.trans (congrArg some (by kernel_rfl))
  f267 := Try.func20.trans (congrArg some (by kernel_rfl))
  f314 := Try.func22.trans (congrArg some (by kernel_rfl))
  t3 := Try.underlying3
  a3 := Try.isAgg3
  z3 := Try.sizeOf3
  v3 := Try.zeroValue3
  t4 := Try.underlying4
  a4 := Try.isAgg4
  z4 := Try.sizeOf4
  v4 := Try.zeroValue4
  t5 := Try.underlying5
  a5 := Try.isAgg5
  z5 := Try.sizeOf5
  v5 := Try.zeroValue5
  t9 := Try.underlying9
  a9 := Try.isAgg9
  z9 := Try.sizeOf9
  v9 := Try.zeroValue9
  t46 := Try.underlying33
  a46 := Try.isAgg33
  z46 := Try.sizeOf33
  v46 := Try.zeroValue33
  t51 := Try.underlying34
  a51 := Try.isAgg34
  z51 := Try.sizeOf34
  v51 := Try.zeroValue34
  t146 := Try.underlying35
  a146 := Try.isAgg35
  z146 := Try.sizeOf35
  v146 := Try.zeroValue35
  g1 := by kernel_rfl }
open Go.RowKit Go.Lib in
/-- strings.Index: "Index returns the index of the first instance of substr in s, or -1 if substr is not present in s.": AT A substr OF ONE BYTE c: IT RETURNS 'Lib.indexByte s c'; the world is as it was. (LAID: no walk: one application.) -/
theorem Try.strings_Index_one (s : ByteArray) (c : UInt8) (w : World) :
    Calls Try.prog 14 #[.string s, .string ⟨#[c]⟩] w fun e w' => e = .returned (.int .i64 (Lib.indexByte s.data.toList c)) ∧ w' = w := Any.strings_Index_one Try.lays143 s c w
open Go.RowKit Go.Lib in
/-- strings.Index: "Index returns the index of the first instance of substr in s, or -1 if substr is not present in s.": IT RETURNS 'Lib.index s substr'; the world is as it was. (LAID: no walk: one application.) -/
theorem Try.strings_Index (s sub : ByteArray) (m : Int) (w : World) (hs : s.size < 4294967281) (hm : w.cell? ⟨0, 0, none⟩ = some (.int .i64 m)) :
    Calls Try.prog 14 #[.string s, .string sub] w fun e w' => e = .returned (.int .i64 (Lib.index s.data.toList sub.data.toList)) ∧ w' = w := Any.strings_Index Try.lays143 s sub m w hs hm
def Try.laysM219_ren : Go.Shelf.Ren := ⟨fun | 219 => 16 | 217 => 17 | 225 => 18 | 224 => 19 | 267 => 20 | 266 => 21 | 314 => 22 | n => n, fun | 9 => 9 | 3 => 3 | 4 => 4 | 5 => 5 | 46 => 33 | 146 => 35 | 51 => 34 | n => n, fun | 1 => 0 | n => n⟩
theorem Try.laysM219 : Go.Proofs.LaysM.n219 Try.prog Try.laysM219_ren := {
  mixed := by kernel_rfl
  f217 := Try.func17.trans (congrArg some (by kernel_rfl))
  f219 := Try.func16.trans (congrArg some (by kernel_rfl))
  f224 := Try.func19.trans (congrArg some (by kernel_rfl))
  f225 := Try.func18.trans (congrArg some (by kernel_rfl))
  f266 := Try.func21.trans (congrArg some (by kernel_rfl))
  f267 := Try.func20.trans (congrArg some (by kernel_rfl))
  f314 := Try.func22.trans (congrArg some (by kernel_rfl))
  t3 := Try.underlying3
  a3 := Try.isAgg3
  z3 := Try.sizeOf3
  v3 := Try.zeroValue3
  t4 := Try.underlying4
  a4 := Try.isAgg4
  z4 := Try.sizeOf4
  v4 := Try.zeroValue4
  t5 := Try.underlying5
  a5 := Try.isAgg5
  z5 := Try.sizeOf5
  v5 := Try.zeroValue5
  t9 := Try.underlying9
  a9 := Try.isAgg9
  z9 := Try.sizeOf9
  v9 := Try.zeroValue9
  t46 := Try.underlying33
  a46 := Try.isAgg33
  z46 := Try.sizeOf33
  v46 := Try.zeroValue33
  t51 := Try.underlying34
  a51 := Try.isAgg34
  z51 := Try.sizeOf34
  v51 := Try.zeroValue34
  t146 := Try.underlying35
  a146 := Try.isAgg35
  z146 := Try.sizeOf35
  v146 := Try.zeroValue35
  g1 := by kernel_rfl
  i3 := by kernel_rfl
  i4 := by kernel_rfl
  i5 := by kernel_rfl
  i9 := by kernel_rfl
  i46 := by kernel_rfl
  i51 := by kernel_rfl
  i146 := by kernel_rfl
  m1 := by kernel_rfl
  s1_3 := fun w h => Go.Proofs.cell_of_shapedOpen_int (zero := #[.int .i64 0]) (t := 3) h (of_decide_eq_true (by kernel_rfl)) (by kernel_rfl) rfl (by kernel_rfl) (by kernel_rfl) Try.underlying3 }
open Go.RowKit Go.Lib in
theorem Try.stringslite_Index_shaped (s sub : ByteArray) (w : World) (h : w.ShapedOpen Try.prog) (hs : s.size < 4294967281) :
    Calls Try.prog 16 #[.string s, .string sub] w fun e w' => e = .returned (.int .i64 (Lib.index s.data.toList sub.data.toList)) ∧ w' = w := Any.stringslite_Index_shaped Try.laysM219 s sub w h hs
def Try.laysM143_ren : Go.Shelf.Ren := ⟨fun | 143 => 14 | 219 => 16 | 217 => 17 | 225 => 18 | 224 => 19 | 267 => 20 | 266 => 21 | 314 => 22 | n => n, fun | 9 => 9 | 3 => 3 | 4 => 4 | 5 => 5 | 46 => 33 | 146 => 35 | 51 => 34 | n => n, fun | 1 => 0 | n => n⟩
theorem Try.laysM143 : Go.Proofs.LaysM.n143 Try.prog Try.laysM143_ren := {
  mixed := by kernel_rfl
  f143 := Try.func14.trans (congrArg some (by kernel_rfl))
  f217 := Try.func17.trans (congrArg some (by kernel_rfl))
  f219 := Try.func16.trans (congrArg some (by kernel_rfl))
  f224 := Try.func19.trans (congrArg some (by kernel_rfl))
  f225 := Try.func18.trans (congrArg some (by kernel_rfl))
  f266 := Try.func21.trans (congrArg some (by kernel_rfl))
  f267 := Try.func20.trans (congrArg some (by kernel_rfl))
  f314 := Try.func22.trans (congrArg some (by kernel_rfl))
  t3 := Try.underlying3
  a3 := Try.isAgg3
  z3 := Try.sizeOf3
  v3 := Try.zeroValue3
  t4 := Try.underlying4
  a4 := Try.isAgg4
  z4 := Try.sizeOf4
  v4 := Try.zeroValue4
  t5 := Try.underlying5
  a5 := Try.isAgg5
  z5 := Try.sizeOf5
  v5 := Try.zeroValue5
  t9 := Try.underlying9
  a9 := Try.isAgg9
  z9 := Try.sizeOf9
  v9 := Try.zeroValue9
  t46 := Try.underlying33
  a46 := Try.isAgg33
  z46 := Try.sizeOf33
  v46 := Try.zeroValue33
  t51 := Try.underlying34
  a51 := Try.isAgg34
  z51 := Try.sizeOf34
  v51 := Try.zeroValue34
  t146 := Try.underlying35
  a146 := Try.isAgg35
  z146 := Try.sizeOf35
  v146 := Try.zeroValue35
  g1 := by kernel_rfl
  i3 := by kernel_rfl
  i4 := by kernel_rfl
  i5 := by kernel_rfl
  i9 := by kernel_rfl
  i46 := by kernel_rfl
  i51 := by kernel_rfl
  i146 := by kernel_rfl
  m1 := by kernel_rfl
  s1_3 := fun w h => Go.Proofs.cell_of_shapedOpen_int (zero := #[.int .i64 0]) (t := 3) h (of_decide_eq_true (by kernel_rfl)) (by kernel_rfl) rfl (by kernel_rfl) (by kernel_rfl) Try.underlying3 }
open Go.RowKit Go.Lib in
theorem Try.strings_Index_shaped (s sub : ByteArray) (w : World) (h : w.ShapedOpen Try.prog) (hs : s.size < 4294967281) :
    Calls Try.prog 14 #[.string s, .string sub] w fun e w' => e = .returned (.int .i64 (Lib.index s.data.toList sub.data.toList)) ∧ w' = w := Any.strings_Index_shaped Try.laysM143 s sub w h hs
def Try.lays206_ren : Go.Shelf.Ren := ⟨fun | 206 => 15 | n => n, fun | 9 => 9 | 4 => 4 | 3 => 3 | n => n, fun | n => n⟩
theorem Try.lays206 : Go.Proofs.Lays.n206 Try.prog Try.lays206_ren := {
  mixed := by kernel_rfl
  f206 := Try.func15.trans (congrArg some (by kernel_rfl))
  t3 := Try.underlying3
  a3 := Try.isAgg3
  z3 := Try.sizeOf3
  v3 := Try.zeroValue3
  t4 := Try.underlying4
  a4 := Try.isAgg4
  z4 := Try.sizeOf4
  v4 := Try.zeroValue4
  t9 := Try.underlying9
  a9 := Try.isAgg9
  z9 := Try.sizeOf9
  v9 := Try.zeroValue9 }
open Go.RowKit Go.Lib in
/-- internal/stringslite.HasPrefix (what strings.HasPrefix calls). (LAID: no walk: one application.) -/
theorem Try.stringslite_HasPrefix (s p : ByteArray) (w : World) :
    Calls Try.prog 15 #[.string s, .string p] w fun e w' => e = .returned (.bool (Lib.hasPrefix s.data.toList p.data.toList)) ∧ w' = w := Any.stringslite_HasPrefix Try.lays206 s p w
def Try.lays99_ren : Go.Shelf.Ren := ⟨fun | 99 => 13 | 206 => 15 | n => n, fun | 9 => 9 | 4 => 4 | 3 => 3 | n => n, fun | n => n⟩
theorem Try.lays99 : Go.Proofs.Lays.n99 Try.prog Try.lays99_ren := {
  mixed := by kernel_rfl
  f99 := Try.func13.trans (congrArg some (by kernel_rfl))
  f206 := Try.func15.trans (congrArg some (by kernel_rfl))
  t3 := Try.underlying3
  a3 := Try.isAgg3
  z3 := Try.sizeOf3
  v3 := Try.zeroValue3
  t4 := Try.underlying4
  a4 := Try.isAgg4
  z4 := Try.sizeOf4
  v4 := Try.zeroValue4
  t9 := Try.underlying9
  a9 := Try.isAgg9
  z9 := Try.sizeOf9
  v9 := Try.zeroValue9 }
open Go.RowKit Go.Lib in
/-- strings.HasPrefix: "HasPrefix reports whether the string s begins with prefix.": IT RETURNS 'Lib.hasPrefix s prefix'; the world is as it was. (LAID: no walk: one application.) -/
theorem Try.strings_HasPrefix (s p : ByteArray) (w : World) :
    Calls Try.prog 13 #[.string s, .string p] w fun e w' => e = .returned (.bool (Lib.hasPrefix s.data.toList p.data.toList)) ∧ w' = w := Any.strings_HasPrefix Try.lays99 s p w
end Go.Proofs
