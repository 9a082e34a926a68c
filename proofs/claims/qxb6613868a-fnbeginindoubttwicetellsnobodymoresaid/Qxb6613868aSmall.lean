import Derived.Test.Qxb6613868aRows
import Derived.WalkKit
import Derived.WalkSpells
import Derived.Handy
import Derived.Deep.QuietTactic
import Derived.BigQuiet
namespace Go.Proofs.Qxb6613868a
open Go.RowKit

/-- zzBytes: within the bound. -/
theorem bytes_yes (a0 a1 : Option Addr) (l0 c0 l1 c1 : Nat) (s o : Int) (w : World) (h0 : l0 ≤ 1048576) (h1 : l0 + l1 ≤ 1048576) :
    Calls Try.prog 11 #[.slice a0 l0 c0, .slice a1 l1 c1, .int .u8 s, .int .u8 o] w fun e w' => e = .returned (.bool true) ∧ w' = w := by
  have h2 : l1 ≤ 1048576 := by omega
  go_enter Try.func11, Try.ntmps11
  go_wp2
  go_ret
  exact ⟨rfl, rfl⟩
theorem bytes_no (a0 a1 : Option Addr) (l0 c0 l1 c1 : Nat) (s o : Int) (w : World) (m0 : l0 ≤ maxLen) (m1 : l1 ≤ maxLen) (h1 : 1048576 < l0 + l1) :
    Calls Try.prog 11 #[.slice a0 l0 c0, .slice a1 l1 c1, .int .u8 s, .int .u8 o] w fun e w' => e = .returned (.bool false) ∧ w' = w := by
  unfold maxLen at m0 m1
  by_cases h0 : 1048576 < l0
  · go_enter Try.func11, Try.ntmps11
    go_wp2
    go_ret
    exact ⟨rfl, rfl⟩
  · by_cases h2 : 1048576 < l1
    · go_enter Try.func11, Try.ntmps11
      go_wp2
      go_ret
      exact ⟨rfl, rfl⟩
    · go_enter Try.func11, Try.ntmps11
      go_wp2
      go_ret
      exact ⟨rfl, rfl⟩
theorem named_any (o : Int) (w : World) :
    Calls Try.prog 12 #[.int .u8 o] w fun e w' => (∃ r, e = .returned (.bool r)) ∧ w' = w := by
  go_enter Try.func12, Try.ntmps12
  go_wp2
  all_goals (go_ret; exact ⟨⟨_, rfl⟩, rfl⟩)

/-- The cells of a Transaction, as the laws' thin file builds it. -/
def TX (st oc : Int) (p2 v2 td : Value) : Array Value :=
  #[.int .u8 st, .bool false, .int .u8 oc, .int .u32 0, .bool false, .bool false, .int .u8 0, .bool false, .slice none 0 0, .slice none 0 0, .bool false, .bool false, .bool false, .slice none 0 0, v2, .slice none 0 0, p2, .int .i64 0, td]
theorem newTx (st oc : Int) (pa : Option Addr) (pl pc : Nat) (va : Option Addr) (vl vc : Nat) (w : World) :
    Calls Try.prog 6 #[.int .u8 st, .int .u8 oc, .bool false, .slice none 0 0, .slice pa pl pc, .slice va vl vc, .slice none 0 0] w fun e w' => e = .returned (.pointer (some ⟨w.heap.size, 0, none⟩)) ∧ w' = w.alloc (.cells (TX st oc (.slice pa pl pc) (.slice va vl vc) (.slice none 0 0)) 43) := by
  go_enter Try.func6, Try.ntmps6
  go_wp2
  go_ret
  exact ⟨rfl, rfl⟩

/-- One answer to the superior: In Doubt. -/
theorem onlyAnswer_yes (g c : Nat) (w : World) (h0 : w.cell? ⟨g, 0, none⟩ = some (.int .u8 11)) (h1 : w.cell? ⟨g, 1, none⟩ = some (.int .u32 0)) (h2 : w.cell? ⟨g, 2, none⟩ = some (.int .u8 5)) :
    Calls Try.prog 14 #[.slice (some ⟨g, 0, none⟩) 1 c, .int .u8 5] w fun e w' => e = .returned (.bool true) ∧ w' = w := by
  go_enter Try.func14, Try.ntmps14
  go_wp2
  go_ret
  exact ⟨rfl, rfl⟩

theorem end_none (b : Nat) (ta : Option Addr) (tl tc : Nat) (w : World) (hl : 0 < tl) (h18 : w.cell? ⟨b, 18, none⟩ = some (.slice ta tl tc)) :
    Calls Try.prog 32 #[.pointer (some ⟨b, 0, none⟩)] w fun e w' => e = .returned (.slice none 0 0) ∧ w' = w := by
  go_enter Try.func32, Try.ntmps32
  go_wp2
  go_ret
  exact ⟨rfl, rfl⟩
theorem end_one (b : Nat) (ta : Option Addr) (tc : Nat) (w : World) (h18 : w.cell? ⟨b, 18, none⟩ = some (.slice ta 0 tc)) (h0 : w.cell? ⟨b, 0, none⟩ = some (.int .u8 8)) :
    Calls Try.prog 32 #[.pointer (some ⟨b, 0, none⟩)] w fun e w' => e = .returned (.slice (some ⟨w.heap.size, 0, none⟩) 1 1) ∧ w' = w.alloc (.cells #[.int .u8 11, .int .u32 0, .int .u8 5] 46) := by
  go_enter Try.func32, Try.ntmps32
  go_wp2
  go_ret
  exact ⟨rfl, rfl⟩

set_option maxHeartbeats 400000 in
theorem sameActions_one (g c g' c' : Nat) (w : World) (h0 : w.cell? ⟨g, 0, none⟩ = some (.int .u8 11)) (h1 : w.cell? ⟨g, 1, none⟩ = some (.int .u32 0)) (h2 : w.cell? ⟨g, 2, none⟩ = some (.int .u8 5))
    (k0 : w.cell? ⟨g', 0, none⟩ = some (.int .u8 11)) (k1 : w.cell? ⟨g', 1, none⟩ = some (.int .u32 0)) (k2 : w.cell? ⟨g', 2, none⟩ = some (.int .u8 5)) :
    Calls Try.prog 9 #[.slice (some ⟨g, 0, none⟩) 1 c, .slice (some ⟨g', 0, none⟩) 1 c'] w fun e w' => e = .returned (.bool true) ∧ ∃ n, w' = w.drewN n := by
  go_enter Try.func9, Try.ntmps9
  go_wp2
  refine wp_loop_rounds 2 ?_
  rw [rounds_succ]
  go_wp2
  go_quiet (fail)
  go_wp2
  rw [rounds_succ]
  go_wp2
  go_ret
  exact ⟨rfl, _, rfl⟩
end Go.Proofs.Qxb6613868a
