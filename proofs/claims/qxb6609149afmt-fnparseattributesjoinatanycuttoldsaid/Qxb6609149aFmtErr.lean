import Derived.Test.Qxb6609149aFmtProg
import Derived.Stop.CallBack
import Derived.Stop.IfaceNil
import Derived.Stop.Walk
import Derived.WalkKit
import Derived.Below
import GoSem.ClaimData
namespace Go.Proofs
open Go.Extern.Stop Go.Stop Go.Extern

/-! The closed facts for a walk over fmt's stopped front (fmt.errorf, function 13), after the worked examples' like. -/
@[go_sem] theorem Tryf.call13 (args : Array Value) (w : World) : (callFunc 13 args).run Tryf.prog w = ((FmtStop.errorf #[9, 35] #[25] args).run Tryf.prog w).andThen fun v w' => .ok (.value v) w' :=
  run_callFunc_extern Tryf.func13 (by kernel_rfl) (by kernel_rfl) (by kernel_rfl) (by kernel_rfl) args w
@[go_sem] theorem Tryf.guard (name : String) (w : World) : (FmtStop.guard name).run Tryf.prog w = .ok () w := by kernel_rfl
@[go_sem] theorem Tryf.fmt0 : FmtStop.printed? ⟨#[97, 116, 116, 114, 105, 98, 117, 116, 101, 115, 32, 37, 113, 58, 32, 37, 100, 32, 110, 97, 109, 101, 115, 44, 32, 109, 111, 114, 101, 32, 116, 104, 97, 110, 32, 37, 100]⟩ 3 = some [(0, 113, false), (1, 100, false), (2, 100, false)] := by kernel_rfl
@[go_sem] theorem Tryf.fmt0r (w : World) : (FmtDoors.printed ⟨#[97, 116, 116, 114, 105, 98, 117, 116, 101, 115, 32, 37, 113, 58, 32, 37, 100, 32, 110, 97, 109, 101, 115, 44, 32, 109, 111, 114, 101, 32, 116, 104, 97, 110, 32, 37, 100]⟩ 3).run Tryf.prog w = .ok [(0, 113, false), (1, 100, false), (2, 100, false)] w := by kernel_rfl
@[go_sem] theorem Tryf.fmt1 : FmtStop.printed? ⟨#[97, 116, 116, 114, 105, 98, 117, 116, 101, 115, 32, 37, 113, 58, 32, 110, 97, 109, 101, 32, 37, 100, 32, 105, 115, 32, 101, 109, 112, 116, 121]⟩ 2 = some [(0, 113, false), (1, 100, false)] := by kernel_rfl
@[go_sem] theorem Tryf.fmt1r (w : World) : (FmtDoors.printed ⟨#[97, 116, 116, 114, 105, 98, 117, 116, 101, 115, 32, 37, 113, 58, 32, 110, 97, 109, 101, 32, 37, 100, 32, 105, 115, 32, 101, 109, 112, 116, 121]⟩ 2).run Tryf.prog w = .ok [(0, 113, false), (1, 100, false)] w := by kernel_rfl
@[go_sem] theorem Tryf.fmt2 : FmtStop.printed? ⟨#[97, 116, 116, 114, 105, 98, 117, 116, 101, 115, 32, 37, 113, 58, 32, 37, 113, 32, 104, 111, 108, 100, 115, 32, 97, 32, 99, 104, 97, 114, 97, 99, 116, 101, 114, 32, 111, 116, 104, 101, 114, 32, 116, 104, 97, 110, 32, 97, 110, 32, 65, 83, 67, 73, 73, 32, 108, 101, 116, 116, 101, 114, 44, 32, 100, 105, 103, 105, 116, 32, 111, 114, 32, 117, 110, 100, 101, 114, 115, 99, 111, 114, 101]⟩ 2 = some [(0, 113, false), (1, 113, false)] := by kernel_rfl
@[go_sem] theorem Tryf.fmt2r (w : World) : (FmtDoors.printed ⟨#[97, 116, 116, 114, 105, 98, 117, 116, 101, 115, 32, 37, 113, 58, 32, 37, 113, 32, 104, 111, 108, 100, 115, 32, 97, 32, 99, 104, 97, 114, 97, 99, 116, 101, 114, 32, 111, 116, 104, 101, 114, 32, 116, 104, 97, 110, 32, 97, 110, 32, 65, 83, 67, 73, 73, 32, 108, 101, 116, 116, 101, 114, 44, 32, 100, 105, 103, 105, 116, 32, 111, 114, 32, 117, 110, 100, 101, 114, 115, 99, 111, 114, 101]⟩ 2).run Tryf.prog w = .ok [(0, 113, false), (1, 113, false)] w := by kernel_rfl
@[go_sem] theorem Tryf.fmt3 : FmtStop.printed? ⟨#[97, 116, 116, 114, 105, 98, 117, 116, 101, 115, 32, 37, 113, 58, 32, 37, 113, 32, 105, 115, 32, 110, 97, 109, 101, 100, 32, 116, 119, 105, 99, 101]⟩ 2 = some [(0, 113, false), (1, 113, false)] := by kernel_rfl
@[go_sem] theorem Tryf.fmt3r (w : World) : (FmtDoors.printed ⟨#[97, 116, 116, 114, 105, 98, 117, 116, 101, 115, 32, 37, 113, 58, 32, 37, 113, 32, 105, 115, 32, 110, 97, 109, 101, 100, 32, 116, 119, 105, 99, 101]⟩ 2).run Tryf.prog w = .ok [(0, 113, false), (1, 113, false)] w := by kernel_rfl
theorem Tryf.name9 : Tryf.prog.typeName? 3 9 = some "string" := by kernel_rfl
def Tryf.shape9 : List UInt8 := [12, 6, 0, 0, 0, 0, 0, 0, 0, 115, 116, 114, 105, 110, 103]
theorem Tryf.name3 : Tryf.prog.typeName? 3 3 = some "int" := by kernel_rfl
def Tryf.shape3 : List UInt8 := [5, 3, 0, 0, 0, 0, 0, 0, 0, 105, 110, 116]
@[go_sem] theorem Tryf.op9_113 (name : String) (x : ByteArray) (w : World) : (FmtStop.operand name false 113 false (.iface 9 (.string x))).run Tryf.prog w = .ok (Tryf.shape9, FmtStop.pack x.data.toList) w := by kernel_rfl
@[go_sem] theorem Tryf.op3_100 (name : String) (x : Int) (w : World) : (FmtStop.operand name false 100 false (.iface 3 (.int .i64 x))).run Tryf.prog w = .ok (Tryf.shape3, Go.Extern.Stop.digits 8 (x % 2 ^ 64).toNat) w := by kernel_rfl
@[go_sem] theorem Tryf.op9_113w (name : String) (x : ByteArray) (w : World) : (FmtStop.operand name true 113 false (.iface 9 (.string x))).run Tryf.prog w = .ok (Tryf.shape9, FmtStop.pack x.data.toList) w := by kernel_rfl
@[go_sem] theorem Tryf.op3_100w (name : String) (x : Int) (w : World) : (FmtStop.operand name true 100 false (.iface 3 (.int .i64 x))).run Tryf.prog w = .ok (Tryf.shape3, Go.Extern.Stop.digits 8 (x % 2 ^ 64).toNat) w := by kernel_rfl
@[go_sem] theorem Tryf.ptr42 (w : World) : (FmtStop.ptrTo "errors.errorString").run Tryf.prog w = .ok 42 w := by kernel_rfl
@[go_sem] theorem Tryf.elem42 (w : World) : (elemOf 42).run Tryf.prog w = .ok 44 w := by kernel_rfl
@[go_sem] theorem Tryf.isError42' (w : World) : (FmtDoors.textMethod 42 "Error").run Tryf.prog w = .ok true w := by kernel_rfl

namespace Qxb6609149aFmt
open Go.RowKit

/-- A non-nil error came back; whatever lay, lies. -/
def ErrOut (w : World) (e : Ending) (w' : World) : Prop := (∃ p : Value, e = .returned (.iface 42 p)) ∧ Below w.heap.size w w'

set_option maxRecDepth 100000 in
set_option maxHeartbeats 1000000 in
theorem errorf0 (F : Interp) (s : ByteArray) (n : Int) (m : Int) (blk : Nat) (w : World) (hF : F.answers w.tape) (hc0 : w.cell? ⟨blk, 0, none⟩ = some (.iface 9 (.string s))) (hc1 : w.cell? ⟨blk, 1, none⟩ = some (.iface 3 (.int .i64 n))) (hc2 : w.cell? ⟨blk, 2, none⟩ = some (.iface 3 (.int .i64 m))) :
    Calls Tryf.prog 8 #[.string ⟨#[97, 116, 116, 114, 105, 98, 117, 116, 101, 115, 32, 37, 113, 58, 32, 37, 100, 32, 110, 97, 109, 101, 115, 44, 32, 109, 111, 114, 101, 32, 116, 104, 97, 110, 32, 37, 100]⟩, .slice (some ⟨blk, 0, none⟩) 3 3] w fun e w' => ErrOut w e w' := by
  have hF' := hF
  unfold Interp.answers at hF'
  have hb : blk < w.heap.size := World.block_lt_of_cell? _ _ hc0
  go_enter Tryf.func8, Tryf.ntmps8
  go_wp2
  go_ret
  exact ⟨⟨_, rfl⟩, ((Below.refl _ w).alloc (Nat.le_refl _) _).drew⟩

set_option maxRecDepth 100000 in
set_option maxHeartbeats 1000000 in
theorem errorf1 (F : Interp) (s : ByteArray) (n : Int) (blk : Nat) (w : World) (hF : F.answers w.tape) (hc0 : w.cell? ⟨blk, 0, none⟩ = some (.iface 9 (.string s))) (hc1 : w.cell? ⟨blk, 1, none⟩ = some (.iface 3 (.int .i64 n))) :
    Calls Tryf.prog 8 #[.string ⟨#[97, 116, 116, 114, 105, 98, 117, 116, 101, 115, 32, 37, 113, 58, 32, 110, 97, 109, 101, 32, 37, 100, 32, 105, 115, 32, 101, 109, 112, 116, 121]⟩, .slice (some ⟨blk, 0, none⟩) 2 2] w fun e w' => ErrOut w e w' := by
  have hF' := hF
  unfold Interp.answers at hF'
  have hb : blk < w.heap.size := World.block_lt_of_cell? _ _ hc0
  go_enter Tryf.func8, Tryf.ntmps8
  go_wp2
  go_ret
  exact ⟨⟨_, rfl⟩, ((Below.refl _ w).alloc (Nat.le_refl _) _).drew⟩

set_option maxRecDepth 100000 in
set_option maxHeartbeats 1000000 in
theorem errorf2 (F : Interp) (s : ByteArray) (x : ByteArray) (blk : Nat) (w : World) (hF : F.answers w.tape) (hc0 : w.cell? ⟨blk, 0, none⟩ = some (.iface 9 (.string s))) (hc1 : w.cell? ⟨blk, 1, none⟩ = some (.iface 9 (.string x))) :
    Calls Tryf.prog 8 #[.string ⟨#[97, 116, 116, 114, 105, 98, 117, 116, 101, 115, 32, 37, 113, 58, 32, 37, 113, 32, 104, 111, 108, 100, 115, 32, 97, 32, 99, 104, 97, 114, 97, 99, 116, 101, 114, 32, 111, 116, 104, 101, 114, 32, 116, 104, 97, 110, 32, 97, 110, 32, 65, 83, 67, 73, 73, 32, 108, 101, 116, 116, 101, 114, 44, 32, 100, 105, 103, 105, 116, 32, 111, 114, 32, 117, 110, 100, 101, 114, 115, 99, 111, 114, 101]⟩, .slice (some ⟨blk, 0, none⟩) 2 2] w fun e w' => ErrOut w e w' := by
  have hF' := hF
  unfold Interp.answers at hF'
  have hb : blk < w.heap.size := World.block_lt_of_cell? _ _ hc0
  go_enter Tryf.func8, Tryf.ntmps8
  go_wp2
  go_ret
  exact ⟨⟨_, rfl⟩, ((Below.refl _ w).alloc (Nat.le_refl _) _).drew⟩

set_option maxRecDepth 100000 in
set_option maxHeartbeats 1000000 in
theorem errorf3 (F : Interp) (s : ByteArray) (x : ByteArray) (blk : Nat) (w : World) (hF : F.answers w.tape) (hc0 : w.cell? ⟨blk, 0, none⟩ = some (.iface 9 (.string s))) (hc1 : w.cell? ⟨blk, 1, none⟩ = some (.iface 9 (.string x))) :
    Calls Tryf.prog 8 #[.string ⟨#[97, 116, 116, 114, 105, 98, 117, 116, 101, 115, 32, 37, 113, 58, 32, 37, 113, 32, 105, 115, 32, 110, 97, 109, 101, 100, 32, 116, 119, 105, 99, 101]⟩, .slice (some ⟨blk, 0, none⟩) 2 2] w fun e w' => ErrOut w e w' := by
  have hF' := hF
  unfold Interp.answers at hF'
  have hb : blk < w.heap.size := World.block_lt_of_cell? _ _ hc0
  go_enter Tryf.func8, Tryf.ntmps8
  go_wp2
  go_ret
  exact ⟨⟨_, rfl⟩, ((Below.refl _ w).alloc (Nat.le_refl _) _).drew⟩
end Qxb6609149aFmt
end Go.Proofs
