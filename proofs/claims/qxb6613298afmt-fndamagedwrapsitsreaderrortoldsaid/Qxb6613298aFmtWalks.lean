import Derived.Test.Qxb6613298aFmtRows
import Derived.WalkKit
import Derived.WalkSpells
import Derived.Handy
import Derived.Stop.CallBack
import Derived.Stop.IfaceNil
import Derived.Deep.QuietTactic
import Derived.BigQuiet
import Derived.BigRegion
import GoSem.ClaimData
namespace Go.Proofs.Qxb6613298aFmt
open Go.RowKit Go.Extern.Stop Go.Stop Go.Extern

theorem call11 (args : Array Value) (w : World) : (callFunc 11 args).run Tryf.prog w = (FmtCalls.errorf #[9, 41] #[33] args).run Tryf.prog w :=
  run_callFunc_next Tryf.func11 (by kernel_rfl) (by kernel_rfl) (by kernel_rfl) args w
theorem call14 (args : Array Value) (w : World) : (callFunc 14 args).run Tryf.prog w = ((FmtStop.sprintf #[9, 41] #[9] args).run Tryf.prog w).andThen fun v w' => .ok (.value v) w' :=
  run_callFunc_extern Tryf.func14 (by kernel_rfl) (by kernel_rfl) (by kernel_rfl) (by kernel_rfl) args w
theorem guardOk (name : String) (w : World) : (FmtStop.guard name).run Tryf.prog w = .ok () w := by kernel_rfl
theorem nextTurns : Extern.next FmtCalls.turnsRow = some (FmtCalls.begun #[] #[]) := by kernel_rfl
theorem nextReturned : Extern.next FmtCalls.returnedRow = some (FmtCalls.returned #[] #[]) := by kernel_rfl
-- the format of damaged, one operand
theorem fmtW : FmtStop.printed? ⟨#[37, 119, 58, 32, 116, 104, 101, 32, 99, 104, 97, 110, 103, 101, 32, 108, 111, 103, 32, 105, 115, 32, 100, 97, 109, 97, 103, 101, 100]⟩ 1 = some [(0, 119, false)] := by kernel_rfl
theorem fmtWr (w : World) : (FmtDoors.printed ⟨#[37, 119, 58, 32, 116, 104, 101, 32, 99, 104, 97, 110, 103, 101, 32, 108, 111, 103, 32, 105, 115, 32, 100, 97, 109, 97, 103, 101, 100]⟩ 1).run Tryf.prog w = .ok [(0, 119, false)] w := by kernel_rfl
-- the two formats of Error
theorem fmtA : FmtStop.printed? ⟨#[37, 115, 58, 32, 37, 115]⟩ 2 = some [(0, 115, false), (1, 115, false)] := by kernel_rfl
theorem fmtAr (w : World) : (FmtDoors.printed ⟨#[37, 115, 58, 32, 37, 115]⟩ 2).run Tryf.prog w = .ok [(0, 115, false), (1, 115, false)] w := by kernel_rfl
theorem fmtB : FmtStop.printed? ⟨#[37, 115, 58, 32, 101, 118, 101, 110, 116, 32, 97, 116, 32, 37, 100, 58, 32, 37, 115]⟩ 3 = some [(0, 115, false), (1, 100, false), (2, 115, false)] := by kernel_rfl
theorem fmtBr (w : World) : (FmtDoors.printed ⟨#[37, 115, 58, 32, 101, 118, 101, 110, 116, 32, 97, 116, 32, 37, 100, 58, 32, 37, 115]⟩ 3).run Tryf.prog w = .ok [(0, 115, false), (1, 100, false), (2, 115, false)] w := by kernel_rfl
def shape9 : List UInt8 := [12, 6, 0, 0, 0, 0, 0, 0, 0, 115, 116, 114, 105, 110, 103]
theorem op9 (name : String) (x : ByteArray) (w : World) : (FmtStop.operand name false 115 false (.iface 9 (.string x))).run Tryf.prog w = .ok (shape9, FmtStop.pack x.data.toList) w := by kernel_rfl
def shape22 : List UInt8 := [8, 6, 0, 0, 0, 0, 0, 0, 0, 117, 105, 110, 116, 51, 50]
theorem op22 (name : String) (x : Int) (w : World) : (FmtStop.operand name false 100 false (.iface 22 (.int .u32 x))).run Tryf.prog w = .ok (shape22, Go.Extern.Stop.digits 8 (x % 2 ^ 64).toNat) w := by kernel_rfl
-- the read error as an operand: its own Error is run
theorem act24 (name : String) (x : Value) (w : World) : (FmtCalls.act name true 119 false (.iface 24 x)).run Tryf.prog w = .ok (.call true) w := by kernel_rfl
theorem isError24 (w : World) : (FmtDoors.textMethod 24 "Error").run Tryf.prog w = .ok true w := by kernel_rfl
theorem invokeError24 (x : Value) (w : World) : (invoke (.fn (.method "Error") #[]) #[.iface 24 x]).run Tryf.prog w = .ok (.enter 13 #[x]) w := by kernel_rfl
theorem str24 (w : World) : (typeStr 24).run Tryf.prog w = .ok Tryf.t24.str w := by kernel_rfl
-- the error that fmt.errorf makes
theorem ptr43 (w : World) : (FmtStop.ptrTo "fmt.wrapError").run Tryf.prog w = .ok 43 w := by kernel_rfl
theorem elem43 (w : World) : (elemOf 43).run Tryf.prog w = .ok 64 w := by kernel_rfl
theorem isError43 (w : World) : (FmtDoors.textMethod 43 "Error").run Tryf.prog w = .ok true w := by kernel_rfl
attribute [local go_sem] call11 call14 guardOk fmtW fmtWr fmtA fmtAr fmtB fmtBr op9 op22 act24 isError24 str24 ptr43 elem43 isError43

set_option maxHeartbeats 800000 in
/-- (*readError).Error gives some string, and turns nothing that was there. -/
theorem error_zero (F : Interp) (b : Nat) (file what : ByteArray) (w : World) (hF : F.answers w.tape) (h0 : w.cell? ⟨b, 0, none⟩ = some (.string file)) (h1 : w.cell? ⟨b, 1, none⟩ = some (.int .u32 0)) (h2 : w.cell? ⟨b, 2, none⟩ = some (.string what)) :
    Calls Tryf.prog 13 #[.pointer (some ⟨b, 0, none⟩)] w fun e w' => (∃ t, e = .returned (.string t)) ∧ Below w.heap.size w w' := by
  have hF' := answers_open hF
  go_enter Tryf.func13, Tryf.ntmps13
  go_wp2
  go_region
  go_wp2
  go_ret
  exact ⟨⟨_, rfl⟩, by go_grown⟩
set_option maxHeartbeats 800000 in
theorem error_pos (F : Interp) (b : Nat) (file what : ByteArray) (pos : Int) (hp : (pos == 0) = false) (w : World) (hF : F.answers w.tape) (h0 : w.cell? ⟨b, 0, none⟩ = some (.string file)) (h1 : w.cell? ⟨b, 1, none⟩ = some (.int .u32 pos)) (h2 : w.cell? ⟨b, 2, none⟩ = some (.string what)) :
    Calls Tryf.prog 13 #[.pointer (some ⟨b, 0, none⟩)] w fun e w' => (∃ t, e = .returned (.string t)) ∧ Below w.heap.size w w' := by
  have hF' := answers_open hF
  go_enter Tryf.func13, Tryf.ntmps13
  go_wp2
  go_region
  go_wp2
  go_ret
  exact ⟨⟨_, rfl⟩, by go_grown⟩
theorem error_any (F : Interp) (b : Nat) (file what : ByteArray) (pos : Int) (w : World) (hF : F.answers w.tape) (h0 : w.cell? ⟨b, 0, none⟩ = some (.string file)) (h1 : w.cell? ⟨b, 1, none⟩ = some (.int .u32 pos)) (h2 : w.cell? ⟨b, 2, none⟩ = some (.string what)) :
    Calls Tryf.prog 13 #[.pointer (some ⟨b, 0, none⟩)] w fun e w' => (∃ t, e = .returned (.string t)) ∧ Below w.heap.size w w' := by
  cases hp : (pos == 0)
  · exact error_pos F b file what pos hp w hF h0 h1 h2
  · obtain rfl : pos = 0 := by simpa using hp
    exact error_zero F b file what w hF h0 h1 h2

set_option maxHeartbeats 1600000 in
theorem damaged_any (F : Interp) (b : Nat) (file what : ByteArray) (pos : Int) (w : World) (hF : F.answers w.tape) (h0 : w.cell? ⟨b, 0, none⟩ = some (.string file)) (h1 : w.cell? ⟨b, 1, none⟩ = some (.int .u32 pos)) (h2 : w.cell? ⟨b, 2, none⟩ = some (.string what)) (hb : b < w.heap.size) :
    Calls Tryf.prog 8 #[.pointer (some ⟨b, 0, none⟩)] w fun e w' => ∃ g, e = .returned (.iface 43 (.pointer (some ⟨g, 0, none⟩))) ∧ w'.cell? ⟨g, 1, none⟩ = some (.iface 24 (.pointer (some ⟨b, 0, none⟩))) ∧ Below w.heap.size w w' := by
  have hF' := answers_open hF
  go_enter Tryf.func8, Tryf.ntmps8
  go_wp2
  apply rows_call nextTurns
  case hr =>
    go_simp
    exact ⟨⟨rfl, rfl, rfl⟩, rfl⟩
  case hi => exact invokeError24 _ _
  case hc =>
    have hb1 : b < w.heap.size + 1 := by omega
    refine (error_any F b file what pos _ (by exact hF) (by simp [h0, hb, go_sem]) (by simp [h1, hb, go_sem]) (by simp [h2, hb, go_sem])).mono ?_
    rintro e w₃ ⟨⟨t, rfl⟩, bel⟩
    have hF3 := answers_open (show F.answers w₃.tape by rw [bel.tape]; exact hF)
    have hc03 : w₃.cell? ⟨w.heap.size, 0, none⟩ = some (.iface 24 (.pointer (some ⟨b, 0, none⟩))) := by rw [bel.cell (p := ⟨w.heap.size, 0, none⟩) (by simp)]; simp
    have HB : Hid (Below w.heap.size w w₃) := ((Below.refl _ _).alloc (Nat.le_refl _) _).trans (bel.mono (by simp))
    clear bel
    apply rows_value nextReturned
    case hr =>
      go_simp
      exact ⟨rfl, rfl⟩
    case h =>
      go_wp2
      go_ret
      refine ⟨w₃.heap.size, rfl, ?_, ?_⟩
      · simp
      · have hs := HB.out.size
        exact (HB.out.alloc hs _).drew
end Go.Proofs.Qxb6613298aFmt
