/- fmt.Errorf over its stop, at the three formats of CheckName: whatever text fmt gives, an error that is not nil comes back, and only new memory is laid. -/
import Derived.Test.Qxb6627966aFmtRows
import Derived.WalkKit
import Derived.WalkSpells
import Derived.WalkLawsBesides
import Derived.Stop.FmtLaws
namespace Go.Proofs.Qxb6627966aFmt
open Go.RowKit Go.Extern.Stop Go.Stop Go.Extern

theorem call11 (args : Array Value) (w : World) : (callFunc 11 args).run Tryf.prog w = ((FmtStop.errorf #[9, 29] #[24] args).run Tryf.prog w).andThen fun v w' => .ok (.value v) w' :=
  run_callFunc_extern Tryf.func11 (by kernel_rfl) (by kernel_rfl) (by kernel_rfl) (by kernel_rfl) args w
theorem guardF (name : String) (w : World) : (FmtStop.guard name).run Tryf.prog w = .ok () w := by kernel_rfl
theorem neqNil (u : TypeId) (x : Value) (w : World) : (binOp .neq 24 (.iface u x) .nilIface).run Tryf.prog w = .ok (.bool true) w := by kernel_rfl
theorem eqlNil (u : TypeId) (x : Value) (w : World) : (binOp .eql 24 (.iface u x) .nilIface).run Tryf.prog w = .ok (.bool false) w := by kernel_rfl
theorem eqlNilNil (w : World) : (binOp .eql 24 .nilIface .nilIface).run Tryf.prog w = .ok (.bool true) w := by kernel_rfl
theorem ptr31 (w : World) : (FmtStop.ptrTo "errors.errorString").run Tryf.prog w = .ok 31 w := by kernel_rfl
theorem elem31 (w : World) : (elemOf 31).run Tryf.prog w = .ok 33 w := by kernel_rfl
def shape9 : List UInt8 := [12, 6, 0, 0, 0, 0, 0, 0, 0, 115, 116, 114, 105, 110, 103]
def shape5 : List UInt8 := [6, 5, 0, 0, 0, 0, 0, 0, 0, 117, 105, 110, 116, 56]
theorem op9 (name : String) (x : ByteArray) (w : World) : (FmtStop.operand name true 113 false (.iface 9 (.string x))).run Tryf.prog w = .ok (shape9, FmtStop.pack x.data.toList) w := by kernel_rfl
theorem op5 (name : String) (x : Int) (w : World) : (FmtStop.operand name true 113 false (.iface 5 (.int .u8 x))).run Tryf.prog w = .ok (shape5, Go.Extern.Stop.digits 8 (x % 2 ^ 64).toNat) w := by kernel_rfl

theorem fmt0 : FmtStop.printed? ⟨#[105, 110, 118, 97, 108, 105, 100, 32, 112, 97, 99, 107, 97, 103, 101, 32, 110, 97, 109, 101, 32, 37, 113, 58, 32, 119, 97, 110, 116, 32, 49, 32, 116, 111, 32, 50, 49, 52, 32, 98, 121, 116, 101, 115]⟩ 1 = some [(0, 113, false)] := by kernel_rfl
theorem fmt0r (w : World) : (FmtDoors.printed ⟨#[105, 110, 118, 97, 108, 105, 100, 32, 112, 97, 99, 107, 97, 103, 101, 32, 110, 97, 109, 101, 32, 37, 113, 58, 32, 119, 97, 110, 116, 32, 49, 32, 116, 111, 32, 50, 49, 52, 32, 98, 121, 116, 101, 115]⟩ 1).run Tryf.prog w = .ok [(0, 113, false)] w := by kernel_rfl
theorem fmt1 : FmtStop.printed? ⟨#[105, 110, 118, 97, 108, 105, 100, 32, 112, 97, 99, 107, 97, 103, 101, 32, 110, 97, 109, 101, 32, 37, 113, 58, 32, 105, 116, 32, 115, 116, 97, 114, 116, 115, 32, 119, 105, 116, 104, 32, 37, 113]⟩ 2 = some [(0, 113, false), (1, 113, false)] := by kernel_rfl
theorem fmt1r (w : World) : (FmtDoors.printed ⟨#[105, 110, 118, 97, 108, 105, 100, 32, 112, 97, 99, 107, 97, 103, 101, 32, 110, 97, 109, 101, 32, 37, 113, 58, 32, 105, 116, 32, 115, 116, 97, 114, 116, 115, 32, 119, 105, 116, 104, 32, 37, 113]⟩ 2).run Tryf.prog w = .ok [(0, 113, false), (1, 113, false)] w := by kernel_rfl
theorem fmt2 : FmtStop.printed? ⟨#[105, 110, 118, 97, 108, 105, 100, 32, 112, 97, 99, 107, 97, 103, 101, 32, 110, 97, 109, 101, 32, 37, 113, 58, 32, 105, 116, 32, 104, 111, 108, 100, 115, 32, 37, 113, 59, 32, 119, 97, 110, 116, 32, 108, 111, 119, 101, 114, 99, 97, 115, 101, 32, 108, 101, 116, 116, 101, 114, 115, 44, 32, 100, 105, 103, 105, 116, 115, 44, 32, 39, 45, 39, 44, 32, 39, 46, 39, 32, 97, 110, 100, 32, 39, 95, 39]⟩ 2 = some [(0, 113, false), (1, 113, false)] := by kernel_rfl
theorem fmt2r (w : World) : (FmtDoors.printed ⟨#[105, 110, 118, 97, 108, 105, 100, 32, 112, 97, 99, 107, 97, 103, 101, 32, 110, 97, 109, 101, 32, 37, 113, 58, 32, 105, 116, 32, 104, 111, 108, 100, 115, 32, 37, 113, 59, 32, 119, 97, 110, 116, 32, 108, 111, 119, 101, 114, 99, 97, 115, 101, 32, 108, 101, 116, 116, 101, 114, 115, 44, 32, 100, 105, 103, 105, 116, 115, 44, 32, 39, 45, 39, 44, 32, 39, 46, 39, 32, 97, 110, 100, 32, 39, 95, 39]⟩ 2).run Tryf.prog w = .ok [(0, 113, false), (1, 113, false)] w := by kernel_rfl

set_option maxHeartbeats 400000 in
theorem errorf0 (x : ByteArray) (b : Nat) (w : World) (hc : w.cell? ⟨b, 0, none⟩ = some (.iface 9 (.string x))) :
    Calls Tryf.prog 9 #[.string ⟨#[105, 110, 118, 97, 108, 105, 100, 32, 112, 97, 99, 107, 97, 103, 101, 32, 110, 97, 109, 101, 32, 37, 113, 58, 32, 119, 97, 110, 116, 32, 49, 32, 116, 111, 32, 50, 49, 52, 32, 98, 121, 116, 101, 115]⟩, .slice (some ⟨b, 0, none⟩) 1 1] w
      fun e w' => (∃ u v, e = .returned (.iface u v)) ∧ Below w.heap.size w w' := by
  have k1 := call11
  have k2 := guardF
  have k3 := fmt0
  have k4 := fmt0r
  have k5 := neqNil
  have k6 := ptr31
  have k7 := op9
  have k8 := op5
  have k9 := elem31
  go_enter Tryf.func9, Tryf.ntmps9
  go_wp2
  go_ret
  exact ⟨⟨_, _, rfl⟩, ((Below.refl _ w).alloc (Nat.le_refl _) _).drew⟩

set_option maxHeartbeats 400000 in
theorem errorf1 (x : ByteArray) (c : Int) (b : Nat) (w : World) (hc : w.cell? ⟨b, 0, none⟩ = some (.iface 9 (.string x))) (hd : w.cell? ⟨b, 1, none⟩ = some (.iface 5 (.int .u8 c))) :
    Calls Tryf.prog 9 #[.string ⟨#[105, 110, 118, 97, 108, 105, 100, 32, 112, 97, 99, 107, 97, 103, 101, 32, 110, 97, 109, 101, 32, 37, 113, 58, 32, 105, 116, 32, 115, 116, 97, 114, 116, 115, 32, 119, 105, 116, 104, 32, 37, 113]⟩, .slice (some ⟨b, 0, none⟩) 2 2] w
      fun e w' => (∃ u v, e = .returned (.iface u v)) ∧ Below w.heap.size w w' := by
  have k1 := call11
  have k2 := guardF
  have k3 := fmt1
  have k4 := fmt1r
  have k5 := neqNil
  have k6 := ptr31
  have k7 := op9
  have k8 := op5
  have k9 := elem31
  go_enter Tryf.func9, Tryf.ntmps9
  go_wp2
  go_ret
  exact ⟨⟨_, _, rfl⟩, ((Below.refl _ w).alloc (Nat.le_refl _) _).drew⟩

set_option maxHeartbeats 400000 in
theorem errorf2 (x : ByteArray) (c : Int) (b : Nat) (w : World) (hc : w.cell? ⟨b, 0, none⟩ = some (.iface 9 (.string x))) (hd : w.cell? ⟨b, 1, none⟩ = some (.iface 5 (.int .u8 c))) :
    Calls Tryf.prog 9 #[.string ⟨#[105, 110, 118, 97, 108, 105, 100, 32, 112, 97, 99, 107, 97, 103, 101, 32, 110, 97, 109, 101, 32, 37, 113, 58, 32, 105, 116, 32, 104, 111, 108, 100, 115, 32, 37, 113, 59, 32, 119, 97, 110, 116, 32, 108, 111, 119, 101, 114, 99, 97, 115, 101, 32, 108, 101, 116, 116, 101, 114, 115, 44, 32, 100, 105, 103, 105, 116, 115, 44, 32, 39, 45, 39, 44, 32, 39, 46, 39, 32, 97, 110, 100, 32, 39, 95, 39]⟩, .slice (some ⟨b, 0, none⟩) 2 2] w
      fun e w' => (∃ u v, e = .returned (.iface u v)) ∧ Below w.heap.size w w' := by
  have k1 := call11
  have k2 := guardF
  have k3 := fmt2
  have k4 := fmt2r
  have k5 := neqNil
  have k6 := ptr31
  have k7 := op9
  have k8 := op5
  have k9 := elem31
  go_enter Tryf.func9, Tryf.ntmps9
  go_wp2
  go_ret
  exact ⟨⟨_, _, rfl⟩, ((Below.refl _ w).alloc (Nat.le_refl _) _).drew⟩
end Go.Proofs.Qxb6627966aFmt
