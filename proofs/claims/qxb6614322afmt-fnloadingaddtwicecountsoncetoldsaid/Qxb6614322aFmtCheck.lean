/- store.CheckID: nil, or a new error. fmt.Sprintf is a stop: its text is whatever F gives. -/
import Derived.Test.Qxb6614322aFmtIds
import Derived.Stop.CallBack
import Derived.Stop.IfaceNil
import GoSem.ClaimData
namespace Go.Proofs.Qxb6614322aFmt
open Go.RowKit Go.Extern.Stop Go.Stop Go.Extern

theorem call23 (args : Array Value) (w : World) : (callFunc 23 args).run Tryf.prog w = ((FmtStop.sprintf #[9, 103] #[9] args).run Tryf.prog w).andThen fun v w' => .ok (.value v) w' :=
  run_callFunc_extern Tryf.func23 (by kernel_rfl) (by kernel_rfl) (by kernel_rfl) (by kernel_rfl) args w
theorem fguard (name : String) (w : World) : (FmtStop.guard name).run Tryf.prog w = .ok () w := by kernel_rfl
theorem fmt1 : FmtStop.printed? ⟨#[37, 113, 32, 105, 115, 32, 110, 111, 116, 32, 97, 110, 32, 105, 100, 32, 111, 102, 32, 37, 115]⟩ 2 = some [(0, 113, false), (1, 115, false)] := by kernel_rfl
theorem fmt1r (w : World) : (FmtDoors.printed ⟨#[37, 113, 32, 105, 115, 32, 110, 111, 116, 32, 97, 110, 32, 105, 100, 32, 111, 102, 32, 37, 115]⟩ 2).run Tryf.prog w = .ok [(0, 113, false), (1, 115, false)] w := by kernel_rfl
theorem fmt2 : FmtStop.printed? ⟨#[37, 113, 32, 105, 115, 32, 103, 105, 118, 101, 110, 32, 109, 111, 114, 101, 32, 116, 104, 97, 110, 32, 111, 110, 99, 101]⟩ 1 = some [(0, 113, false)] := by kernel_rfl
theorem fmt2r (w : World) : (FmtDoors.printed ⟨#[37, 113, 32, 105, 115, 32, 103, 105, 118, 101, 110, 32, 109, 111, 114, 101, 32, 116, 104, 97, 110, 32, 111, 110, 99, 101]⟩ 1).run Tryf.prog w = .ok [(0, 113, false)] w := by kernel_rfl
def shape9 : List UInt8 := [12, 6, 0, 0, 0, 0, 0, 0, 0, 115, 116, 114, 105, 110, 103]
theorem op113 (name : String) (x : ByteArray) (w : World) : (FmtStop.operand name false 113 false (.iface 9 (.string x))).run Tryf.prog w = .ok (shape9, FmtStop.pack x.data.toList) w := by kernel_rfl
theorem op115 (name : String) (x : ByteArray) (w : World) : (FmtStop.operand name false 115 false (.iface 9 (.string x))).run Tryf.prog w = .ok (shape9, FmtStop.pack x.data.toList) w := by kernel_rfl
attribute [local go_sem] call23 fguard fmt1 fmt1r fmt2 fmt2r op113 op115

set_option maxHeartbeats 400000 in
theorem check_ok (field s : ByteArray) (w : World) (hs : s.size ≤ maxLen) (hv : validB s.data.toList = true) :
    Calls Tryf.prog 22 #[.string field, .string s] w fun e w' => e = .returned .nilIface ∧ Below w.heap.size w w' := by
  have HV := hid hv
  clear hv
  go_enter Tryf.func22, Tryf.ntmps22
  go_wp2_with (go_at_call 24; refine (valid_any s _ hs).mono ?_; rintro e w1 ⟨rfl, b1⟩; rw [HV.out])
  go_ret
  exact ⟨rfl, b1⟩

set_option maxHeartbeats 1000000 in
theorem check_bad (F : Interp) (field s : ByteArray) (w : World) (hF : F.answers w.tape) (hs : s.size ≤ maxLen) (hv : validB s.data.toList = false) :
    Calls Tryf.prog 22 #[.string field, .string s] w fun e w' => (∃ p, e = .returned (.iface 73 p)) ∧ Below w.heap.size w w' := by
  have HV := hid hv
  clear hv
  go_enter Tryf.func22, Tryf.ntmps22
  go_wp2_with fail
  refine (valid_any s _ hs).mono ?_
  rintro e w1 ⟨rfl, b1⟩
  rw [HV.out]
  have hF1 : F.answers w1.tape := by rw [b1.tape]; exact hF
  have hF' := answers_open hF1
  go_wp2
  go_ret
  exact ⟨⟨_, rfl⟩, ((b1.alloc b1.size _).alloc (by have := b1.size; simp; omega) _).drew⟩
end Go.Proofs.Qxb6614322aFmt
