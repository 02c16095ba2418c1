/-
  Seat b6615565aF: what both cards' proofs share: a witness that lays the tables, DecodeRuneInString at an ASCII byte, closed facts.
-/
import Derived.Test.Qxb6615565aFmtLaws
import Derived.Test.Qxb6615565aFmtRows
import Derived.Test.Qxb6615565aFmtTie
import Derived.Test.Qxb6615565aFmtCards
import Derived.ProofKit
import Derived.Stop.JoinedTold
import Derived.SevenTiedAt
import Derived.Lay
namespace Go
open Go.ChangeAt
/-- There is an input that fits, on a tape that F answers, at a row that lists great tables. -/
theorem OpenSpec.witness_stopped_zip {H : Type} {enc : TypeId × Value → H} {C : Checked} {os : Os} {f : FuncId} {fn : Func} {s : OpenSpec} {conds : List PathCond} {apart : Bool} {laid : List (String × DataW Unit)} (modest : Bool) (w0 : World) (args : Array Value) (hos : w0.os = os)
    (hsh : ∀ tape, (w0.forCall tape ⟨#[], args, []⟩).Shaped C.prog)
    (hok : Input.okWideB C.prog (w0.forCall (fun _ _ => 0) ⟨#[], args, []⟩) f ⟨#[], args, []⟩ = true)
    (hrow : s.preRow enc C.prog fn conds apart laid (w0.forCall (fun _ _ => 0) ⟨#[], args, []⟩).memory args) (F : Stop.Interp) :
    ∃ (w : World) (tape : Tape) (i : Input), w.os = os ∧ (w.forCall tape i).Shaped C.prog ∧ i.vars = [] ∧ Input.okWide C.prog (w.forCall tape i) .any w.heap.size f i ∧
      s.preRow enc C.prog fn conds apart laid (w.forCall tape i).memory i.args ∧ ({ modest := modest } : Assume).holds C.prog (lone (Frame.enter C.prog f i.args .normal) [] (w.forCall tape i)) ∧ F.answers tape :=
  ⟨w0, F.over fun _ _ => 0, ⟨#[], args, []⟩, hos, hsh _, (Input.okWide_of_okWideB (base := 0) hok).1, (Input.okWide_of_okWideB hok).2, hrow, by
    simp only [Assume.holds]
    exact ⟨by simp, by simp, fun _ => F.over_modest Modest.zero, by simp, by simp⟩, F.over_answers _⟩
end Go
namespace Go.Proofs.Qxb6615565aFmt
open Go.ChangeShapes Go.WideShapes Go.ChangeAt Go.RowKit
open Go.Extern.Stop Go.Stop Go.Extern

set_option maxRecDepth 100000 in
set_option maxHeartbeats 400000 in
/-- utf8.DecodeRuneInString where the first byte is ASCII. -/
theorem decode_low (s : ByteArray) (w : World) (h : 0 < s.size) (x : UInt8) (hx : s[0]'h = x) (ha : x.toNat < 128) :
    Calls Tryf.prog 20 #[.string s] w fun e w' => e = .returned (.tuple #[.int .i32 x.toNat, .int .i64 1]) ∧ w' = w := by
  have hne : s.toList.isEmpty = false := by
    rw [ByteArray.toList_eq]
    cases hl : s.data.toList with
    | nil => exact absurd h (by rw [show s.size = s.data.toList.length from by simp, hl]; simp)
    | cons _ _ => rfl
  have hz : (0 : Int) < (s.size : Int) := by omega
  have haz : (x.toNat : Int) < 128 := by omega
  go_enter Tryf.func20, Tryf.ntmps20
  go_wp2
  go_ret2
  exact ⟨rfl, rfl⟩

theorem own : ownKnob Tryf.prog.godebug = none := by kernel_rfl
theorem laidOut : laidOutB Tryf.pinned.checked.prog = true := by kernel_rfl
theorem stops0 : Tryf.pinned.checked.prog.stops = ["fmt.errorf"] := by kernel_rfl
theorem stopKnobs0 : Tryf.pinned.checked.prog.stopKnobs = [] := by kernel_rfl
theorem quiet0 (os : Os) : Stop.quiet Tryf.pinned.checked.prog os := by
  intro k hk
  rw [stopKnobs0] at hk
  cases hk

end Go.Proofs.Qxb6615565aFmt
