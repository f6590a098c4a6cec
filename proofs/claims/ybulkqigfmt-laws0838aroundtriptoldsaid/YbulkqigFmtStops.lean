/-
  DERIVED. THE CLOSED FACTS FOR A WALK OVER fmt's STOPPED FRONT in this dump (after the guide's CheckFmt.lean), and the contracts of fmt.Errorf at this program's four formats: the error is a new one, not nil; nothing old has turned.
-/
import Derived.Test.YbulkqigFmtProg
import Derived.Stop.CallBack
import Derived.Stop.IfaceNil
import GoSem.ClaimData
import Derived.WalkKit
import Derived.WalkSpells
import Derived.WalkLawsBesides
namespace Go.Proofs.YbulkqigFmt
open Go.RowKit Go.Extern.Stop Go.Stop Go.Extern

theorem call16 (args : Array Value) (w : World) : (callFunc 16 args).run Ybaf.prog w = ((FmtStop.errorf #[9, 47] #[27] args).run Ybaf.prog w).andThen fun v w' => .ok (.value v) w' :=
  run_callFunc_extern Ybaf.func16 (by kernel_rfl) (by kernel_rfl) (by kernel_rfl) (by kernel_rfl) args w
theorem guard (name : String) (w : World) : (FmtStop.guard name).run Ybaf.prog w = .ok () w := by kernel_rfl

/-- "character %d (%q) is not a hex digit" -/
abbrev fmtA : ByteArray := ⟨#[99, 104, 97, 114, 97, 99, 116, 101, 114, 32, 37, 100, 32, 40, 37, 113, 41, 32, 105, 115, 32, 110, 111, 116, 32, 97, 32, 104, 101, 120, 32, 100, 105, 103, 105, 116]⟩
/-- "an odd number of hex digits (%d)" -/
abbrev fmtB : ByteArray := ⟨#[97, 110, 32, 111, 100, 100, 32, 110, 117, 109, 98, 101, 114, 32, 111, 102, 32, 104, 101, 120, 32, 100, 105, 103, 105, 116, 115, 32, 40, 37, 100, 41]⟩
/-- "direction %q: want auto, mo or mt" -/
abbrev fmtC : ByteArray := ⟨#[100, 105, 114, 101, 99, 116, 105, 111, 110, 32, 37, 113, 58, 32, 119, 97, 110, 116, 32, 97, 117, 116, 111, 44, 32, 109, 111, 32, 111, 114, 32, 109, 116]⟩
/-- "report form %q: want ack or error" -/
abbrev fmtD : ByteArray := ⟨#[114, 101, 112, 111, 114, 116, 32, 102, 111, 114, 109, 32, 37, 113, 58, 32, 119, 97, 110, 116, 32, 97, 99, 107, 32, 111, 114, 32, 101, 114, 114, 111, 114]⟩

theorem fmtAr (w : World) : (FmtDoors.printed fmtA 2).run Ybaf.prog w = .ok [(0, 100, false), (1, 113, false)] w := by kernel_rfl
theorem fmtBr (w : World) : (FmtDoors.printed fmtB 1).run Ybaf.prog w = .ok [(0, 100, false)] w := by kernel_rfl
theorem fmtCr (w : World) : (FmtDoors.printed fmtC 1).run Ybaf.prog w = .ok [(0, 113, false)] w := by kernel_rfl
theorem fmtDr (w : World) : (FmtDoors.printed fmtD 1).run Ybaf.prog w = .ok [(0, 113, false)] w := by kernel_rfl

def shape3 : List UInt8 := [5, 3, 0, 0, 0, 0, 0, 0, 0, 105, 110, 116]
theorem op3_100w (name : String) (x : Int) (w : World) : (FmtStop.operand name true 100 false (.iface 3 (.int .i64 x))).run Ybaf.prog w = .ok (shape3, Go.Extern.Stop.digits 8 (x % 2 ^ 64).toNat) w := by kernel_rfl
def shape21 : List UInt8 := [4, 5, 0, 0, 0, 0, 0, 0, 0, 105, 110, 116, 51, 50]
theorem op21_113w (name : String) (x : Int) (w : World) : (FmtStop.operand name true 113 false (.iface 21 (.int .i32 x))).run Ybaf.prog w = .ok (shape21, Go.Extern.Stop.digits 8 (x % 2 ^ 64).toNat) w := by kernel_rfl
def shape33 : List UInt8 := [12, 14, 0, 0, 0, 0, 0, 0, 0, 116, 112, 100, 117, 46, 68, 105, 114, 101, 99, 116, 105, 111, 110]
theorem op33_113w (name : String) (x : ByteArray) (w : World) : (FmtStop.operand name true 113 false (.iface 33 (.string x))).run Ybaf.prog w = .ok (shape33, FmtStop.pack x.data.toList) w := by kernel_rfl
def shape35 : List UInt8 := [12, 15, 0, 0, 0, 0, 0, 0, 0, 116, 112, 100, 117, 46, 82, 101, 112, 111, 114, 116, 70, 111, 114, 109]
theorem op35_113w (name : String) (x : ByteArray) (w : World) : (FmtStop.operand name true 113 false (.iface 35 (.string x))).run Ybaf.prog w = .ok (shape35, FmtStop.pack x.data.toList) w := by kernel_rfl
theorem ptr50 (w : World) : (FmtStop.ptrTo "errors.errorString").run Ybaf.prog w = .ok 50 w := by kernel_rfl
theorem elem50 (w : World) : (elemOf 50).run Ybaf.prog w = .ok 52 w := by kernel_rfl

attribute [local go_sem] call16 guard fmtAr fmtBr fmtCr fmtDr op3_100w op21_113w op33_113w op35_113w ptr50 elem50

set_option maxHeartbeats 400000 in
/-- fmt.Errorf: a number and a rune. -/
theorem errorfA (F : Interp) (n c : Int) (b : Nat) (w : World) (hF : F.answers w.tape) (hc : w.cell? ⟨b, 0, none⟩ = some (.iface 3 (.int .i64 n))) (hd : w.cell? ⟨b, 1, none⟩ = some (.iface 21 (.int .i32 c))) :
    Calls Ybaf.prog 15 #[.string fmtA, .slice (some ⟨b, 0, none⟩) 2 2] w fun e w' => ∃ s : ByteArray, e = .returned (.iface 50 (.pointer (some ⟨w.heap.size, 0, none⟩))) ∧ w' = (w.alloc (.cells #[.string s] 52)).drew := by
  have hF' := answers_open hF
  go_enter Ybaf.func15, Ybaf.ntmps15
  go_wp2
  go_ret
  exact ⟨_, rfl, rfl⟩
set_option maxHeartbeats 400000 in
/-- fmt.Errorf: a number. -/
theorem errorfB (F : Interp) (n : Int) (b : Nat) (w : World) (hF : F.answers w.tape) (hc : w.cell? ⟨b, 0, none⟩ = some (.iface 3 (.int .i64 n))) :
    Calls Ybaf.prog 15 #[.string fmtB, .slice (some ⟨b, 0, none⟩) 1 1] w fun e w' => ∃ s : ByteArray, e = .returned (.iface 50 (.pointer (some ⟨w.heap.size, 0, none⟩))) ∧ w' = (w.alloc (.cells #[.string s] 52)).drew := by
  have hF' := answers_open hF
  go_enter Ybaf.func15, Ybaf.ntmps15
  go_wp2
  go_ret
  exact ⟨_, rfl, rfl⟩
set_option maxHeartbeats 400000 in
/-- fmt.Errorf: one operand of type tpdu.Direction. -/
theorem errorfC (F : Interp) (x : ByteArray) (b : Nat) (w : World) (hF : F.answers w.tape) (hc : w.cell? ⟨b, 0, none⟩ = some (.iface 33 (.string x))) :
    Calls Ybaf.prog 15 #[.string fmtC, .slice (some ⟨b, 0, none⟩) 1 1] w fun e w' => ∃ s : ByteArray, e = .returned (.iface 50 (.pointer (some ⟨w.heap.size, 0, none⟩))) ∧ w' = (w.alloc (.cells #[.string s] 52)).drew := by
  have hF' := answers_open hF
  go_enter Ybaf.func15, Ybaf.ntmps15
  go_wp2
  go_ret
  exact ⟨_, rfl, rfl⟩
set_option maxHeartbeats 400000 in
/-- fmt.Errorf: one operand of type tpdu.ReportForm. -/
theorem errorfD (F : Interp) (x : ByteArray) (b : Nat) (w : World) (hF : F.answers w.tape) (hc : w.cell? ⟨b, 0, none⟩ = some (.iface 35 (.string x))) :
    Calls Ybaf.prog 15 #[.string fmtD, .slice (some ⟨b, 0, none⟩) 1 1] w fun e w' => ∃ s : ByteArray, e = .returned (.iface 50 (.pointer (some ⟨w.heap.size, 0, none⟩))) ∧ w' = (w.alloc (.cells #[.string s] 52)).drew := by
  have hF' := answers_open hF
  go_enter Ybaf.func15, Ybaf.ntmps15
  go_wp2
  go_ret
  exact ⟨_, rfl, rfl⟩
end Go.Proofs.YbulkqigFmt
