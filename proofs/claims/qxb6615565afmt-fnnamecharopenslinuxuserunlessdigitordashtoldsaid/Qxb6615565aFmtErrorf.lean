/-
  Seat b6615565aF: fmt.Errorf at the one format that checkLinuxUser hands it: it gives an error that is not nil, whatever fmt's text is.
-/
import Derived.Test.Qxb6615565aFmtAll
import Derived.Stop.CallBack
import Derived.Stop.IfaceNil
import GoSem.ClaimData
namespace Go.Proofs.Qxb6615565aFmt
open Go.RowKit Go.Extern.Stop Go.Stop Go.Extern

theorem call26 (args : Array Value) (w : World) : (callFunc 26 args).run Tryf.prog w = ((FmtStop.errorf #[9, 36] #[24] args).run Tryf.prog w).andThen fun v w' => .ok (.value v) w' :=
  run_callFunc_extern Tryf.func26 (by kernel_rfl) (by kernel_rfl) (by kernel_rfl) (by kernel_rfl) args w
theorem guard0 (name : String) (w : World) : (FmtStop.guard name).run Tryf.prog w = .ok () w := by kernel_rfl
theorem fmt0 : FmtStop.printed? ⟨#[117, 115, 101, 114, 32, 37, 113, 32, 105, 115, 32, 110, 111, 116, 32, 97, 32, 76, 105, 110, 117, 120, 32, 117, 115, 101, 114, 32, 110, 97, 109, 101, 58, 32, 97, 116, 32, 109, 111, 115, 116, 32, 37, 100, 32, 99, 104, 97, 114, 97, 99, 116, 101, 114, 115, 44, 32, 97, 32, 108, 101, 116, 116, 101, 114, 32, 111, 114, 32, 95, 32, 102, 105, 114, 115, 116, 44, 32, 116, 104, 101, 110, 32, 108, 101, 116, 116, 101, 114, 115, 44, 32, 100, 105, 103, 105, 116, 115, 44, 32, 95, 32, 97, 110, 100, 32, 45]⟩ 2 = some [(0, 113, false), (1, 100, false)] := by kernel_rfl
theorem fmt0r (w : World) : (FmtDoors.printed ⟨#[117, 115, 101, 114, 32, 37, 113, 32, 105, 115, 32, 110, 111, 116, 32, 97, 32, 76, 105, 110, 117, 120, 32, 117, 115, 101, 114, 32, 110, 97, 109, 101, 58, 32, 97, 116, 32, 109, 111, 115, 116, 32, 37, 100, 32, 99, 104, 97, 114, 97, 99, 116, 101, 114, 115, 44, 32, 97, 32, 108, 101, 116, 116, 101, 114, 32, 111, 114, 32, 95, 32, 102, 105, 114, 115, 116, 44, 32, 116, 104, 101, 110, 32, 108, 101, 116, 116, 101, 114, 115, 44, 32, 100, 105, 103, 105, 116, 115, 44, 32, 95, 32, 97, 110, 100, 32, 45]⟩ 2).run Tryf.prog w = .ok [(0, 113, false), (1, 100, false)] w := by kernel_rfl
def shape9 : List UInt8 := [12, 6, 0, 0, 0, 0, 0, 0, 0, 115, 116, 114, 105, 110, 103]
def shape3 : List UInt8 := [5, 3, 0, 0, 0, 0, 0, 0, 0, 105, 110, 116]
theorem op9 (name : String) (x : ByteArray) (w : World) : (FmtStop.operand name false 113 false (.iface 9 (.string x))).run Tryf.prog w = .ok (shape9, FmtStop.pack x.data.toList) w := by kernel_rfl
theorem op9w (name : String) (x : ByteArray) (w : World) : (FmtStop.operand name true 113 false (.iface 9 (.string x))).run Tryf.prog w = .ok (shape9, FmtStop.pack x.data.toList) w := by kernel_rfl
theorem op3 (name : String) (x : Int) (w : World) : (FmtStop.operand name false 100 false (.iface 3 (.int .i64 x))).run Tryf.prog w = .ok (shape3, Go.Extern.Stop.digits 8 (x % 2 ^ 64).toNat) w := by kernel_rfl
theorem op3w (name : String) (x : Int) (w : World) : (FmtStop.operand name true 100 false (.iface 3 (.int .i64 x))).run Tryf.prog w = .ok (shape3, Go.Extern.Stop.digits 8 (x % 2 ^ 64).toNat) w := by kernel_rfl
theorem ptr44 (w : World) : (FmtStop.ptrTo "errors.errorString").run Tryf.prog w = .ok 44 w := by kernel_rfl
theorem elem44 (w : World) : (elemOf 44).run Tryf.prog w = .ok 46 w := by kernel_rfl
theorem isError44 (w : World) : (FmtDoors.textMethod 44 "Error").run Tryf.prog w = .ok true w := by kernel_rfl
attribute [local go_sem] call26 guard0 fmt0 fmt0r op9 op9w op3 op3w ptr44 elem44 isError44

/-- What fmt is asked: the format, the user's name, 32. -/
def badR (s : List UInt8) (i : Int) : List (List UInt8) :=
  [[117, 115, 101, 114, 32, 37, 113, 32, 105, 115, 32, 110, 111, 116, 32, 97, 32, 76, 105, 110, 117, 120, 32, 117, 115, 101, 114, 32, 110, 97, 109, 101, 58, 32, 97, 116, 32, 109, 111, 115, 116, 32, 37, 100, 32, 99, 104, 97, 114, 97, 99, 116, 101, 114, 115, 44, 32, 97, 32, 108, 101, 116, 116, 101, 114, 32, 111, 114, 32, 95, 32, 102, 105, 114, 115, 116, 44, 32, 116, 104, 101, 110, 32, 108, 101, 116, 116, 101, 114, 115, 44, 32, 100, 105, 103, 105, 116, 115, 44, 32, 95, 32, 97, 110, 100, 32, 45], shape9, FmtStop.pack s, shape3, digits 8 (i % 18446744073709551616).toNat]

set_option maxRecDepth 1000000 in
set_option maxHeartbeats 400000 in
theorem errorf_bad (F : Interp) (s : ByteArray) (i : Int) (blk : Nat) (w : World) (hF : F.answers w.tape)
    (hc0 : w.cell? ⟨blk, 0, none⟩ = some (.iface 9 (.string s))) (hc1 : w.cell? ⟨blk, 1, none⟩ = some (.iface 3 (.int .i64 i))) :
    Calls Tryf.prog 22 #[.string ⟨#[117, 115, 101, 114, 32, 37, 113, 32, 105, 115, 32, 110, 111, 116, 32, 97, 32, 76, 105, 110, 117, 120, 32, 117, 115, 101, 114, 32, 110, 97, 109, 101, 58, 32, 97, 116, 32, 109, 111, 115, 116, 32, 37, 100, 32, 99, 104, 97, 114, 97, 99, 116, 101, 114, 115, 44, 32, 97, 32, 108, 101, 116, 116, 101, 114, 32, 111, 114, 32, 95, 32, 102, 105, 114, 115, 116, 44, 32, 116, 104, 101, 110, 32, 108, 101, 116, 116, 101, 114, 115, 44, 32, 100, 105, 103, 105, 116, 115, 44, 32, 95, 32, 97, 110, 100, 32, 45]⟩, .slice (some ⟨blk, 0, none⟩) 2 2] w fun e w' =>
      e = .returned (.iface 44 (.pointer (some ⟨w.heap.size, 0, none⟩))) ∧ w' = (w.alloc (.cells #[.string (FmtStop.textOf (F "fmt.errorf" (badR s.data.toList i) 0))] 46)).drew := by
  have hF' := answers_open hF
  go_enter Tryf.func22, Tryf.ntmps22
  go_wp2
  go_ret
  exact ⟨rfl, rfl⟩
end Go.Proofs.Qxb6615565aFmt
