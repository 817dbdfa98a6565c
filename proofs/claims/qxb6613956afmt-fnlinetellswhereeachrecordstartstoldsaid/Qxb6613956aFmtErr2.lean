/-
  fmt.Errorf where this program calls it: a new error, whatever its text.
-/
import Derived.Test.Qxb6613956aFmtErrs
import Derived.Stop.CallBack
import Derived.Stop.IfaceNil
namespace Go.Proofs.Qxb6613956aFmt.W
open Go.RowKit Go.Extern.Stop Go.Stop Go.Extern

theorem call55 (args : Array Value) (w : World) : (callFunc 55 args).run Tryf.prog w = ((FmtStop.errorf #[9, 106] #[55] args).run Tryf.prog w).andThen fun v w' => .ok (.value v) w' :=
  run_callFunc_extern Tryf.func55 (by kernel_rfl) (by kernel_rfl) (by kernel_rfl) (by kernel_rfl) args w
theorem guardF (name : String) (w : World) : (FmtStop.guard name).run Tryf.prog w = .ok () w := by kernel_rfl
def shape3 : List UInt8 := [5, 3, 0, 0, 0, 0, 0, 0, 0, 105, 110, 116]
theorem op3_100 (name : String) (x : Int) (w : World) : (FmtStop.operand name false 100 false (.iface 3 (.int .i64 x))).run Tryf.prog w = .ok (shape3, Go.Extern.Stop.digits 8 (x % 2 ^ 64).toNat) w := by kernel_rfl
theorem op3_100w (name : String) (x : Int) (w : World) : (FmtStop.operand name true 100 false (.iface 3 (.int .i64 x))).run Tryf.prog w = .ok (shape3, Go.Extern.Stop.digits 8 (x % 2 ^ 64).toNat) w := by kernel_rfl
theorem strict3 (name : String) (x : Int) (w : World) : (FmtStop.strict name (.iface 3 (.int .i64 x))).run Tryf.prog w = .ok (shape3, Go.Extern.Stop.digits 8 (x % 2 ^ 64).toNat) w := by kernel_rfl
theorem ptr129 (w : World) : (FmtStop.ptrTo "errors.errorString").run Tryf.prog w = .ok 129 w := by kernel_rfl
theorem elem129 (w : World) : (elemOf 129).run Tryf.prog w = .ok 131 w := by kernel_rfl

attribute [local go_sem] call55 guardF op3_100 op3_100w strict3 ptr129 elem129

set_option maxRecDepth 100000 in
set_option maxHeartbeats 400000 in
theorem errorf2 (F : Interp) (f : ByteArray) (x y : Int) (blk : Nat) (w : World) (hF : F.answers w.tape)
    (hc0 : w.cell? ⟨blk, 0, none⟩ = some (.iface 3 (.int .i64 x))) (hc1 : w.cell? ⟨blk, 1, none⟩ = some (.iface 3 (.int .i64 y)))
    (p2r : ∀ w, (FmtDoors.printed f 2).run Tryf.prog w = .ok [(0, 100, false), (1, 100, false)] w) :
    Calls Tryf.prog 43 #[.string f, .slice (some ⟨blk, 0, none⟩) 2 2] w fun e w' => ∃ t, e = .returned (errV ⟨w.heap.size, 0, none⟩) ∧ w' = (w.alloc (.cells #[.string t] 131)).drew := by
  have hF' := answers_open hF
  go_enter Tryf.func43, Tryf.ntmps43
  go_wp2
  go_ret
  exact ⟨_, rfl, rfl⟩

set_option maxRecDepth 100000 in
set_option maxHeartbeats 400000 in
theorem errorf3 (F : Interp) (f : ByteArray) (x y z : Int) (blk : Nat) (w : World) (hF : F.answers w.tape)
    (hc0 : w.cell? ⟨blk, 0, none⟩ = some (.iface 3 (.int .i64 x))) (hc1 : w.cell? ⟨blk, 1, none⟩ = some (.iface 3 (.int .i64 y))) (hc2 : w.cell? ⟨blk, 2, none⟩ = some (.iface 3 (.int .i64 z)))
    (p3r : ∀ w, (FmtDoors.printed f 3).run Tryf.prog w = .ok [(0, 100, false), (1, 100, false), (2, 100, false)] w) :
    Calls Tryf.prog 43 #[.string f, .slice (some ⟨blk, 0, none⟩) 3 3] w fun e w' => ∃ t, e = .returned (errV ⟨w.heap.size, 0, none⟩) ∧ w' = (w.alloc (.cells #[.string t] 131)).drew := by
  have hF' := answers_open hF
  go_enter Tryf.func43, Tryf.ntmps43
  go_wp2
  go_ret
  exact ⟨_, rfl, rfl⟩

def fmA : ByteArray := ⟨#[108, 105, 110, 101, 32, 37, 100, 44, 32, 102, 105, 101, 108, 100, 32, 37, 100, 58, 32, 97, 32, 100, 111, 117, 98, 108, 101, 32, 113, 117, 111, 116, 101, 32, 115, 116, 97, 110, 100, 115, 32, 105, 110, 32, 97, 32, 102, 105, 101, 108, 100, 32, 116, 104, 97, 116, 32, 100, 111, 101, 115, 32, 110, 111, 116, 32, 115, 116, 97, 114, 116, 32, 119, 105, 116, 104, 32, 111, 110, 101]⟩
def fmB : ByteArray := ⟨#[108, 105, 110, 101, 32, 37, 100, 44, 32, 102, 105, 101, 108, 100, 32, 37, 100, 58, 32, 116, 104, 101, 32, 113, 117, 111, 116, 101, 100, 32, 102, 105, 101, 108, 100, 39, 115, 32, 99, 108, 111, 115, 105, 110, 103, 32, 100, 111, 117, 98, 108, 101, 32, 113, 117, 111, 116, 101, 32, 105, 115, 32, 102, 111, 108, 108, 111, 119, 101, 100, 32, 98, 121, 32, 110, 101, 105, 116, 104, 101, 114, 32, 97, 32, 99, 111, 109, 109, 97, 32, 110, 111, 114, 32, 116, 104, 101, 32, 114, 101, 99, 111, 114, 100, 39, 115, 32, 101, 110, 100]⟩
def fmC : ByteArray := ⟨#[108, 105, 110, 101, 32, 37, 100, 44, 32, 102, 105, 101, 108, 100, 32, 37, 100, 58, 32, 116, 104, 101, 32, 113, 117, 111, 116, 101, 100, 32, 102, 105, 101, 108, 100, 32, 104, 97, 115, 32, 110, 111, 32, 99, 108, 111, 115, 105, 110, 103, 32, 100, 111, 117, 98, 108, 101, 32, 113, 117, 111, 116, 101]⟩
def fmD : ByteArray := ⟨#[108, 105, 110, 101, 32, 37, 100, 58, 32, 119, 114, 111, 110, 103, 32, 110, 117, 109, 98, 101, 114, 32, 111, 102, 32, 102, 105, 101, 108, 100, 115, 58, 32, 37, 100, 44, 32, 119, 104, 101, 114, 101, 32, 116, 104, 101, 32, 102, 105, 114, 115, 116, 32, 114, 101, 99, 111, 114, 100, 32, 104, 97, 115, 32, 37, 100]⟩
theorem prA (w : World) : (FmtDoors.printed fmA 2).run Tryf.prog w = .ok [(0, 100, false), (1, 100, false)] w := by kernel_rfl
theorem prB (w : World) : (FmtDoors.printed fmB 2).run Tryf.prog w = .ok [(0, 100, false), (1, 100, false)] w := by kernel_rfl
theorem prC (w : World) : (FmtDoors.printed fmC 2).run Tryf.prog w = .ok [(0, 100, false), (1, 100, false)] w := by kernel_rfl
theorem prD (w : World) : (FmtDoors.printed fmD 3).run Tryf.prog w = .ok [(0, 100, false), (1, 100, false), (2, 100, false)] w := by kernel_rfl
end Go.Proofs.Qxb6613956aFmt.W
