/-
  Seat b6003984aF: fmt.Errorf at the formats of this road, and errors.New: each gives an error of errors.New's make, which is not nil, whatever the text.
-/
import Derived.Test.Qxb6003984aFmtLower
import Derived.Stop.CallBack
import Derived.Stop.IfaceNil
import GoSem.ClaimData
set_option linter.unusedSimpArgs false
set_option linter.unusedVariables false
namespace Go.Proofs.Qxb6003984aFmt
open Go.RowKit Go.Extern.Stop Go.Stop Go.Extern

theorem call35 (args : Array Value) (w : World) : (callFunc 35 args).run Tryf.prog w = (FmtCalls.errorf #[9, 68] #[25] args).run Tryf.prog w :=
  run_callFunc_next Tryf.func35 (by kernel_rfl) (by kernel_rfl) (by kernel_rfl) args w
theorem nextTurns : Extern.next FmtCalls.turnsRow = some (FmtCalls.begun #[] #[]) := by kernel_rfl
theorem guard0 (name : String) (w : World) : (FmtStop.guard name).run Tryf.prog w = .ok () w := by kernel_rfl
def shape9 : List UInt8 := [12, 6, 0, 0, 0, 0, 0, 0, 0, 115, 116, 114, 105, 110, 103]
def shape5 : List UInt8 := [6, 5, 0, 0, 0, 0, 0, 0, 0, 117, 105, 110, 116, 56]
def plain83 : List UInt8 := 14 :: FmtStop.pack "*errors.errorString".toUTF8.data.toList
theorem fmt1 : FmtStop.printed? ⟨#[97, 32, 112, 97, 114, 97, 109, 101, 116, 101, 114, 32, 110, 97, 109, 101, 32, 105, 115, 32, 101, 120, 112, 101, 99, 116, 101, 100, 32, 97, 116, 32, 37, 113]⟩ 1 = some [(0, 113, false)] := by kernel_rfl
theorem fmt1r (w : World) : (FmtDoors.printed ⟨#[97, 32, 112, 97, 114, 97, 109, 101, 116, 101, 114, 32, 110, 97, 109, 101, 32, 105, 115, 32, 101, 120, 112, 101, 99, 116, 101, 100, 32, 97, 116, 32, 37, 113]⟩ 1).run Tryf.prog w = .ok [(0, 113, false)] w := by kernel_rfl
theorem fmt2 : FmtStop.printed? ⟨#[116, 104, 101, 32, 112, 97, 114, 97, 109, 101, 116, 101, 114, 32, 37, 113, 32, 104, 97, 115, 32, 110, 111, 32, 118, 97, 108, 117, 101]⟩ 1 = some [(0, 113, false)] := by kernel_rfl
theorem fmt2r (w : World) : (FmtDoors.printed ⟨#[116, 104, 101, 32, 112, 97, 114, 97, 109, 101, 116, 101, 114, 32, 37, 113, 32, 104, 97, 115, 32, 110, 111, 32, 118, 97, 108, 117, 101]⟩ 1).run Tryf.prog w = .ok [(0, 113, false)] w := by kernel_rfl
theorem fmt3 : FmtStop.printed? ⟨#[116, 104, 101, 32, 112, 97, 114, 97, 109, 101, 116, 101, 114, 32, 37, 113, 58, 32, 37, 118]⟩ 2 = some [(0, 113, false), (1, 118, false)] := by kernel_rfl
theorem fmt3r (w : World) : (FmtDoors.printed ⟨#[116, 104, 101, 32, 112, 97, 114, 97, 109, 101, 116, 101, 114, 32, 37, 113, 58, 32, 37, 118]⟩ 2).run Tryf.prog w = .ok [(0, 113, false), (1, 118, false)] w := by kernel_rfl
theorem fmt4 : FmtStop.printed? ⟨#[116, 104, 101, 32, 112, 97, 114, 97, 109, 101, 116, 101, 114, 32, 37, 113, 32, 105, 115, 32, 102, 111, 108, 108, 111, 119, 101, 100, 32, 98, 121, 32, 37, 113, 44, 32, 110, 111, 116, 32, 97, 32, 99, 111, 109, 109, 97]⟩ 2 = some [(0, 113, false), (1, 113, false)] := by kernel_rfl
theorem fmt4r (w : World) : (FmtDoors.printed ⟨#[116, 104, 101, 32, 112, 97, 114, 97, 109, 101, 116, 101, 114, 32, 37, 113, 32, 105, 115, 32, 102, 111, 108, 108, 111, 119, 101, 100, 32, 98, 121, 32, 37, 113, 44, 32, 110, 111, 116, 32, 97, 32, 99, 111, 109, 109, 97]⟩ 2).run Tryf.prog w = .ok [(0, 113, false), (1, 113, false)] w := by kernel_rfl
theorem fmt5 : FmtStop.printed? ⟨#[116, 104, 101, 32, 112, 97, 114, 97, 109, 101, 116, 101, 114, 32, 37, 113, 32, 115, 116, 97, 110, 100, 115, 32, 109, 111, 114, 101, 32, 116, 104, 97, 110, 32, 111, 110, 99, 101]⟩ 1 = some [(0, 113, false)] := by kernel_rfl
theorem fmt5r (w : World) : (FmtDoors.printed ⟨#[116, 104, 101, 32, 112, 97, 114, 97, 109, 101, 116, 101, 114, 32, 37, 113, 32, 115, 116, 97, 110, 100, 115, 32, 109, 111, 114, 101, 32, 116, 104, 97, 110, 32, 111, 110, 99, 101]⟩ 1).run Tryf.prog w = .ok [(0, 113, false)] w := by kernel_rfl
theorem fmt6 : FmtStop.printed? ⟨#[116, 104, 101, 32, 113, 117, 111, 116, 101, 100, 32, 115, 116, 114, 105, 110, 103, 32, 104, 111, 108, 100, 115, 32, 116, 104, 101, 32, 98, 121, 116, 101, 32, 37, 35, 120]⟩ 1 = some [(0, 120, true)] := by kernel_rfl
theorem fmt6r (w : World) : (FmtDoors.printed ⟨#[116, 104, 101, 32, 113, 117, 111, 116, 101, 100, 32, 115, 116, 114, 105, 110, 103, 32, 104, 111, 108, 100, 115, 32, 116, 104, 101, 32, 98, 121, 116, 101, 32, 37, 35, 120]⟩ 1).run Tryf.prog w = .ok [(0, 120, true)] w := by kernel_rfl
theorem act9 (name : String) (x : Value) (w : World) : (FmtCalls.act name false 113 false (.iface 9 x)).run Tryf.prog w = .ok (.closed false) w := by kernel_rfl
theorem op9 (name : String) (x : ByteArray) (w : World) : (FmtStop.operand name false 113 false (.iface 9 (.string x))).run Tryf.prog w = .ok (shape9, FmtStop.pack x.data.toList) w := by kernel_rfl
theorem act5 (name : String) (x : Value) (w : World) : (FmtCalls.act name false 120 true (.iface 5 x)).run Tryf.prog w = .ok (.closed false) w := by kernel_rfl
theorem op5 (name : String) (x : Int) (w : World) : (FmtStop.operand name false 120 true (.iface 5 (.int .u8 x))).run Tryf.prog w = .ok (shape5, Go.Extern.Stop.digits 8 (x % 2 ^ 64).toNat) w := by kernel_rfl
theorem act83 (name : String) (x : Value) (w : World) : (FmtCalls.act name false 118 false (.iface 83 x)).run Tryf.prog w = .ok (.closed false) w := by kernel_rfl
theorem op83 (name : String) (a : Addr) (s : ByteArray) (w : World) (hc : w.cell? a = some (.string s)) :
    (FmtStop.operand name false 118 false (.iface 83 (.pointer (some a)))).run Tryf.prog w = .ok (plain83, s.data.toList) w := by
  have h1 : (typeStr 83).run Tryf.prog w = .ok "*errors.errorString" w := by kernel_rfl
  have d2 : Tryf.t83.desc = .pointer 85 := rfl
  have d3 : Tryf.t85.desc = .named "errors.errorString" 84 := rfl
  simp [FmtStop.operand, h1, d2, d3, run_load, hc, plain83]
theorem act9w (name : String) (x : Value) (w : World) : (FmtCalls.act name true 113 false (.iface 9 x)).run Tryf.prog w = .ok (.closed true) w := by kernel_rfl
theorem op9w (name : String) (x : ByteArray) (w : World) : (FmtStop.operand name true 113 false (.iface 9 (.string x))).run Tryf.prog w = .ok (shape9, FmtStop.pack x.data.toList) w := by kernel_rfl
theorem act5w (name : String) (x : Value) (w : World) : (FmtCalls.act name true 120 true (.iface 5 x)).run Tryf.prog w = .ok (.closed true) w := by kernel_rfl
theorem op5w (name : String) (x : Int) (w : World) : (FmtStop.operand name true 120 true (.iface 5 (.int .u8 x))).run Tryf.prog w = .ok (shape5, Go.Extern.Stop.digits 8 (x % 2 ^ 64).toNat) w := by kernel_rfl
theorem act83w (name : String) (x : Value) (w : World) : (FmtCalls.act name true 118 false (.iface 83 x)).run Tryf.prog w = .ok (.closed true) w := by kernel_rfl
theorem op83w (name : String) (a : Addr) (s : ByteArray) (w : World) (hc : w.cell? a = some (.string s)) :
    (FmtStop.operand name true 118 false (.iface 83 (.pointer (some a)))).run Tryf.prog w = .ok (plain83, s.data.toList) w := by
  have h1 : (typeStr 83).run Tryf.prog w = .ok "*errors.errorString" w := by kernel_rfl
  have d2 : Tryf.t83.desc = .pointer 85 := rfl
  have d3 : Tryf.t85.desc = .named "errors.errorString" 84 := rfl
  simp [FmtStop.operand, h1, d2, d3, run_load, hc, plain83]
theorem str9 (w : World) : (typeStr 9).run Tryf.prog w = .ok "string" w := by kernel_rfl
theorem str5 (w : World) : (typeStr 5).run Tryf.prog w = .ok "uint8" w := by kernel_rfl
theorem str83 (w : World) : (typeStr 83).run Tryf.prog w = .ok "*errors.errorString" w := by kernel_rfl
theorem ptr83 (w : World) : (FmtStop.ptrTo "errors.errorString").run Tryf.prog w = .ok 83 w := by kernel_rfl
theorem elem83 (w : World) : (elemOf 83).run Tryf.prog w = .ok 85 w := by kernel_rfl
theorem isError83 (w : World) : (FmtDoors.textMethod 83 "Error").run Tryf.prog w = .ok true w := by kernel_rfl
attribute [local go_sem] call35 guard0 fmt1 fmt1r fmt2 fmt2r fmt3 fmt3r fmt4 fmt4r fmt5 fmt5r fmt6 fmt6r act9 op9 act5 op5 act83 act9w op9w act5w op5w act83w str9 str5 str83 ptr83 elem83 isError83

/-- What is left by a call that makes an error. -/
def Made (w : World) (e : Ending) (w' : World) : Prop := ∃ a text, e = .returned (.iface 83 (.pointer (some a))) ∧ w'.cell? a = some (.string text) ∧ a.block < w'.heap.size ∧ Below w.heap.size w w'

theorem made_cell (w : World) (text : ByteArray) : ((w.alloc (.cells #[.string text] 85)).drew).cell? ⟨w.heap.size, 0, none⟩ = some (.string text) := by
  rw [World.cell?_drew]
  simp
theorem made_below (w : World) (text : ByteArray) : Below w.heap.size w ((w.alloc (.cells #[.string text] 85)).drew) := ((Below.refl _ _).alloc (Nat.le_refl _) _).drew

set_option maxRecDepth 1000000 in
set_option maxHeartbeats 400000 in
theorem errorf1 (F : Interp) (s : ByteArray) (blk : Nat) (w : World) (hF : F.answers w.tape) (hc0 : w.cell? ⟨blk, 0, none⟩ = some (.iface 9 (.string s))) :
    Calls Tryf.prog 26 #[.string ⟨#[97, 32, 112, 97, 114, 97, 109, 101, 116, 101, 114, 32, 110, 97, 109, 101, 32, 105, 115, 32, 101, 120, 112, 101, 99, 116, 101, 100, 32, 97, 116, 32, 37, 113]⟩, .slice (some ⟨blk, 0, none⟩) 1 1] w (Made w) := by
  have hF' := answers_open hF
  go_enter Tryf.func26, Tryf.ntmps26
  go_wp2
  apply rows_value nextTurns
  case hr =>
    go_simp
    exact ⟨rfl, rfl⟩
  case h =>
    go_wp2
    go_ret
    exact ⟨_, _, rfl, made_cell _ _, by simp, made_below _ _⟩

set_option maxRecDepth 1000000 in
set_option maxHeartbeats 400000 in
theorem errorf2 (F : Interp) (s : ByteArray) (blk : Nat) (w : World) (hF : F.answers w.tape) (hc0 : w.cell? ⟨blk, 0, none⟩ = some (.iface 9 (.string s))) :
    Calls Tryf.prog 26 #[.string ⟨#[116, 104, 101, 32, 112, 97, 114, 97, 109, 101, 116, 101, 114, 32, 37, 113, 32, 104, 97, 115, 32, 110, 111, 32, 118, 97, 108, 117, 101]⟩, .slice (some ⟨blk, 0, none⟩) 1 1] w (Made w) := by
  have hF' := answers_open hF
  go_enter Tryf.func26, Tryf.ntmps26
  go_wp2
  apply rows_value nextTurns
  case hr =>
    go_simp
    exact ⟨rfl, rfl⟩
  case h =>
    go_wp2
    go_ret
    exact ⟨_, _, rfl, made_cell _ _, by simp, made_below _ _⟩

set_option maxRecDepth 1000000 in
set_option maxHeartbeats 400000 in
theorem errorf3 (F : Interp) (s : ByteArray) (a : Addr) (blk : Nat) (w : World) (hF : F.answers w.tape) (hc0 : w.cell? ⟨blk, 0, none⟩ = some (.iface 9 (.string s))) (hc1 : w.cell? ⟨blk, 1, none⟩ = some (.iface 83 (.pointer (some a)))) (text : ByteArray) (ht : w.cell? a = some (.string text)) :
    Calls Tryf.prog 26 #[.string ⟨#[116, 104, 101, 32, 112, 97, 114, 97, 109, 101, 116, 101, 114, 32, 37, 113, 58, 32, 37, 118]⟩, .slice (some ⟨blk, 0, none⟩) 2 2] w (Made w) := by
  have hF' := answers_open hF
  have ho := fun name => op83 name a text w ht
  have how := fun name => op83w name a text w ht
  go_enter Tryf.func26, Tryf.ntmps26
  go_wp2
  apply rows_value nextTurns
  case hr =>
    go_simp
    exact ⟨rfl, rfl⟩
  case h =>
    go_wp2
    go_ret
    exact ⟨_, _, rfl, made_cell _ _, by simp, made_below _ _⟩

set_option maxRecDepth 1000000 in
set_option maxHeartbeats 400000 in
theorem errorf4 (F : Interp) (s : ByteArray) (t : ByteArray) (blk : Nat) (w : World) (hF : F.answers w.tape) (hc0 : w.cell? ⟨blk, 0, none⟩ = some (.iface 9 (.string s))) (hc1 : w.cell? ⟨blk, 1, none⟩ = some (.iface 9 (.string t))) :
    Calls Tryf.prog 26 #[.string ⟨#[116, 104, 101, 32, 112, 97, 114, 97, 109, 101, 116, 101, 114, 32, 37, 113, 32, 105, 115, 32, 102, 111, 108, 108, 111, 119, 101, 100, 32, 98, 121, 32, 37, 113, 44, 32, 110, 111, 116, 32, 97, 32, 99, 111, 109, 109, 97]⟩, .slice (some ⟨blk, 0, none⟩) 2 2] w (Made w) := by
  have hF' := answers_open hF
  go_enter Tryf.func26, Tryf.ntmps26
  go_wp2
  apply rows_value nextTurns
  case hr =>
    go_simp
    exact ⟨rfl, rfl⟩
  case h =>
    go_wp2
    go_ret
    exact ⟨_, _, rfl, made_cell _ _, by simp, made_below _ _⟩

set_option maxRecDepth 1000000 in
set_option maxHeartbeats 400000 in
theorem errorf5 (F : Interp) (s : ByteArray) (blk : Nat) (w : World) (hF : F.answers w.tape) (hc0 : w.cell? ⟨blk, 0, none⟩ = some (.iface 9 (.string s))) :
    Calls Tryf.prog 26 #[.string ⟨#[116, 104, 101, 32, 112, 97, 114, 97, 109, 101, 116, 101, 114, 32, 37, 113, 32, 115, 116, 97, 110, 100, 115, 32, 109, 111, 114, 101, 32, 116, 104, 97, 110, 32, 111, 110, 99, 101]⟩, .slice (some ⟨blk, 0, none⟩) 1 1] w (Made w) := by
  have hF' := answers_open hF
  go_enter Tryf.func26, Tryf.ntmps26
  go_wp2
  apply rows_value nextTurns
  case hr =>
    go_simp
    exact ⟨rfl, rfl⟩
  case h =>
    go_wp2
    go_ret
    exact ⟨_, _, rfl, made_cell _ _, by simp, made_below _ _⟩

set_option maxRecDepth 1000000 in
set_option maxHeartbeats 400000 in
theorem errorf6 (F : Interp) (c : Int) (blk : Nat) (w : World) (hF : F.answers w.tape) (hc0 : w.cell? ⟨blk, 0, none⟩ = some (.iface 5 (.int .u8 c))) :
    Calls Tryf.prog 26 #[.string ⟨#[116, 104, 101, 32, 113, 117, 111, 116, 101, 100, 32, 115, 116, 114, 105, 110, 103, 32, 104, 111, 108, 100, 115, 32, 116, 104, 101, 32, 98, 121, 116, 101, 32, 37, 35, 120]⟩, .slice (some ⟨blk, 0, none⟩) 1 1] w (Made w) := by
  have hF' := answers_open hF
  go_enter Tryf.func26, Tryf.ntmps26
  go_wp2
  apply rows_value nextTurns
  case hr =>
    go_simp
    exact ⟨rfl, rfl⟩
  case h =>
    go_wp2
    go_ret
    exact ⟨_, _, rfl, made_cell _ _, by simp, made_below _ _⟩

set_option maxRecDepth 1000000 in
set_option maxHeartbeats 400000 in
theorem new_any (s : ByteArray) (w : World) : Calls Tryf.prog 36 #[.string s] w (Made w) := by
  go_enter Tryf.func36, Tryf.ntmps36
  go_wp2
  go_ret
  exact ⟨_, s, rfl, by simp, by simp, (Below.refl _ _).alloc (Nat.le_refl _) _⟩
end Go.Proofs.Qxb6003984aFmt
