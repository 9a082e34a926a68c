import Derived.Test.Qxb6614001aFmtRows
import Derived.WalkKit
import Derived.WalkSpells
import Derived.Handy
import Derived.Stop.CallBack
import Derived.Stop.IfaceNil
import GoSem.ClaimData
namespace Go.Proofs.Qxb6614001aFmt
open Go.RowKit Go.Extern.Stop Go.Stop Go.Extern

theorem call12 (args : Array Value) (w : World) : (callFunc 12 args).run Tryf.prog w = ((FmtStop.errorf #[9, 37] #[25] args).run Tryf.prog w).andThen fun v w' => .ok (.value v) w' :=
  run_callFunc_extern Tryf.func12 (by kernel_rfl) (by kernel_rfl) (by kernel_rfl) (by kernel_rfl) args w
theorem guardOk (name : String) (w : World) : (FmtStop.guard name).run Tryf.prog w = .ok () w := by kernel_rfl
theorem fmtQ : FmtStop.printed? ⟨#[100, 97, 116, 101, 32, 109, 117, 115, 116, 32, 98, 101, 32, 37, 113, 32, 111, 114, 32, 37, 113]⟩ 2 = some [(0, 113, false), (1, 113, false)] := by kernel_rfl
theorem fmtQr (w : World) : (FmtDoors.printed ⟨#[100, 97, 116, 101, 32, 109, 117, 115, 116, 32, 98, 101, 32, 37, 113, 32, 111, 114, 32, 37, 113]⟩ 2).run Tryf.prog w = .ok [(0, 113, false), (1, 113, false)] w := by kernel_rfl
def shape34 : List UInt8 := [12, 17, 0, 0, 0, 0, 0, 0, 0, 116, 97, 98, 108, 101, 115, 46, 68, 97, 116, 101, 70, 111, 114, 109, 97, 116]
theorem op34 (name : String) (x : ByteArray) (w : World) : (FmtStop.operand name true 113 false (.iface 34 (.string x))).run Tryf.prog w = .ok (shape34, FmtStop.pack x.data.toList) w := by kernel_rfl
theorem ptr40 (w : World) : (FmtStop.ptrTo "errors.errorString").run Tryf.prog w = .ok 40 w := by kernel_rfl
theorem elem40 (w : World) : (elemOf 40).run Tryf.prog w = .ok 42 w := by kernel_rfl
theorem isError40 (w : World) : (FmtDoors.textMethod 40 "Error").run Tryf.prog w = .ok true w := by kernel_rfl
theorem assert_int (n : Int) (w : World) : (Instr.typeAssert (.iface 2 (.int .i64 n)) 20 9 true).run Tryf.prog w = .ok (.tuple #[.string ⟨#[]⟩, .bool false]) w := by kernel_rfl
theorem assert_bool (b : Bool) (w : World) : (Instr.typeAssert (.iface 4 (.bool b)) 20 9 true).run Tryf.prog w = .ok (.tuple #[.string ⟨#[]⟩, .bool false]) w := by kernel_rfl
theorem assert_string (s : ByteArray) (w : World) : (Instr.typeAssert (.iface 9 (.string s)) 20 9 true).run Tryf.prog w = .ok (.tuple #[.string s, .bool true]) w := by kernel_rfl
attribute [local go_sem] assert_int assert_bool assert_string call12 guardOk fmtQ fmtQr op34 ptr40 elem40 isError40

/-- What fmt.Errorf is asked. -/
def asked : List (List UInt8) := [[100, 97, 116, 101, 32, 109, 117, 115, 116, 32, 98, 101, 32, 37, 113, 32, 111, 114, 32, 37, 113], shape34, FmtStop.pack [89, 89, 89, 89, 45, 77, 77, 45, 68, 68], shape34, FmtStop.pack [77, 47, 68, 47, 89, 89, 89, 89]]

theorem unmarshal_int (F : Interp) (p : Addr) (n : Int) (w : World) (hF : F.answers w.tape) :
    Calls Tryf.prog 9 #[.pointer (some p), .iface 2 (.int .i64 n)] w fun e w' => e = .returned (.iface 40 (.pointer (some ⟨w.heap.size + 1, 0, none⟩))) ∧ Below w.heap.size w w' := by
  have hF' := answers_open hF
  go_enter Tryf.func9, Tryf.ntmps9
  go_wp2
  go_ret
  exact ⟨rfl, by go_grown⟩
theorem unmarshal_bool (F : Interp) (p : Addr) (b : Bool) (w : World) (hF : F.answers w.tape) :
    Calls Tryf.prog 9 #[.pointer (some p), .iface 4 (.bool b)] w fun e w' => e = .returned (.iface 40 (.pointer (some ⟨w.heap.size + 1, 0, none⟩))) ∧ Below w.heap.size w w' := by
  have hF' := answers_open hF
  go_enter Tryf.func9, Tryf.ntmps9
  go_wp2
  go_ret
  exact ⟨rfl, by go_grown⟩

theorem unmarshal_string_bad (F : Interp) (p : Addr) (s : ByteArray) (w : World) (hF : F.answers w.tape) (h1 : (s.toList == [89, 89, 89, 89, 45, 77, 77, 45, 68, 68]) = false) (h2 : (s.toList == [77, 47, 68, 47, 89, 89, 89, 89]) = false) :
    Calls Tryf.prog 9 #[.pointer (some p), .iface 9 (.string s)] w fun e w' => e = .returned (.iface 40 (.pointer (some ⟨w.heap.size + 1, 0, none⟩))) ∧ Below w.heap.size w w' := by
  have hF' := answers_open hF
  go_enter Tryf.func9, Tryf.ntmps9
  go_wp2
  go_ret
  exact ⟨rfl, by go_grown⟩
theorem unmarshal_string_iso (b : Nat) (s v : ByteArray) (w : World) (hc : w.cell? ⟨b, 0, none⟩ = some (.string v)) (hz : w.frozen? ⟨b, 0, none⟩ = false) (h1 : (s.toList == [89, 89, 89, 89, 45, 77, 77, 45, 68, 68]) = true) :
    Calls Tryf.prog 9 #[.pointer (some ⟨b, 0, none⟩), .iface 9 (.string s)] w fun e w' => e = .returned .nilIface ∧ w' = w.setCell ⟨b, 0, none⟩ (.string s) := by
  go_enter Tryf.func9, Tryf.ntmps9
  go_wp2
  go_ret
  exact ⟨rfl, rfl⟩
theorem unmarshal_string_us (b : Nat) (s v : ByteArray) (w : World) (hc : w.cell? ⟨b, 0, none⟩ = some (.string v)) (hz : w.frozen? ⟨b, 0, none⟩ = false) (h1 : (s.toList == [89, 89, 89, 89, 45, 77, 77, 45, 68, 68]) = false) (h2 : (s.toList == [77, 47, 68, 47, 89, 89, 89, 89]) = true) :
    Calls Tryf.prog 9 #[.pointer (some ⟨b, 0, none⟩), .iface 9 (.string s)] w fun e w' => e = .returned .nilIface ∧ w' = w.setCell ⟨b, 0, none⟩ (.string s) := by
  go_enter Tryf.func9, Tryf.ntmps9
  go_wp2
  go_ret
  exact ⟨rfl, rfl⟩
end Go.Proofs.Qxb6614001aFmt
