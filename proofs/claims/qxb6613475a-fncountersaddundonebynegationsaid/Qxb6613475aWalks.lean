import Derived.Test.Qxb6613475aRows
import Derived.WalkKit
import Derived.WalkSpells
import Derived.Handy
import Derived.Deep.RegionWith
import Derived.BigRegion
namespace Go.Proofs.Qxb6613475a
open Go.RowKit

theorem store16 (a : Addr) (y : Int) (u : Value) (w : World) (hc : w.cell? a = some u) (hz : w.frozen? a = false) :
    (callFunc 16 #[.pointer (some a), .int .i64 y]).run Try.prog w = .ok (.value (.tuple #[])) (w.setCell a (.int .i64 y)) :=
  run_call_store (P := Try.prog) Try.func16 (by kernel_rfl) (by kernel_rfl) (by kernel_rfl) (by kernel_rfl) hc hz
theorem load18 (a : Addr) (x : Int) (w : World) (hc : w.cell? a = some (.int .i64 x)) :
    (callFunc 18 #[.pointer (some a)]).run Try.prog w = .ok (.value (.int .i64 x)) w :=
  run_call_load (P := Try.prog) Try.func18 (by kernel_rfl) (by kernel_rfl) (by kernel_rfl) .i64 (by kernel_rfl) hc
theorem add21 (a : Addr) (x y : Int) (w : World) (hc : w.cell? a = some (.int .i64 x)) (hz : w.frozen? a = false) :
    (callFunc 21 #[.pointer (some a), .int .i64 y]).run Try.prog w = .ok (.value (.int .i64 (wrap64 (x + y)))) (w.setCell a (.int .i64 (wrap64 (x + y)))) :=
  run_call_add (P := Try.prog) Try.func21 (by kernel_rfl) (by kernel_rfl) (by kernel_rfl) .i64 (by kernel_rfl) hc hz (by simp [go_sem, wrap64, IntKind.wrap_i64])

/-- (*atomic.Int64).Store -/
theorem store11 (b o : Nat) (y : Int) (u : Value) (w : World) (hc : w.cell? ⟨b, o, none⟩ = some u) (hz : w.frozen? ⟨b, o, none⟩ = false) :
    Calls Try.prog 11 #[.pointer (some ⟨b, o, none⟩), .int .i64 y] w fun e w' => e = .returned (.tuple #[]) ∧ w' = w.setCell ⟨b, o, none⟩ (.int .i64 y) := by
  have h16 := store16 ⟨b, o, none⟩ y u w hc hz
  go_enter Try.func11, Try.ntmps11
  go_wp2
  go_end0
  exact ⟨rfl, rfl⟩
theorem load13 (b o : Nat) (x : Int) (w : World) (hc : w.cell? ⟨b, o, none⟩ = some (.int .i64 x)) :
    Calls Try.prog 13 #[.pointer (some ⟨b, o, none⟩)] w fun e w' => e = .returned (.int .i64 x) ∧ w' = w := by
  have h18 := load18 ⟨b, o, none⟩ x w hc
  go_enter Try.func13, Try.ntmps13
  go_wp2
  go_ret
  exact ⟨rfl, rfl⟩
theorem add17 (b o : Nat) (x y : Int) (w : World) (hc : w.cell? ⟨b, o, none⟩ = some (.int .i64 x)) (hz : w.frozen? ⟨b, o, none⟩ = false) :
    Calls Try.prog 17 #[.pointer (some ⟨b, o, none⟩), .int .i64 y] w fun e w' => e = .returned (.int .i64 (wrap64 (x + y))) ∧ w' = w.setCell ⟨b, o, none⟩ (.int .i64 (wrap64 (x + y))) := by
  have h21 := add21 ⟨b, o, none⟩ x y w hc hz
  go_enter Try.func17, Try.ntmps17
  go_wp2
  go_ret
  exact ⟨rfl, rfl⟩
theorem add12 (b : Nat) (o : Nat) (ho : o < 7) (x y : Int) (w : World) (hc : w.cell? ⟨b, o, none⟩ = some (.int .i64 x)) (hz : w.frozen? ⟨b, o, none⟩ = false) :
    Calls Try.prog 12 #[.pointer (some ⟨b, 0, none⟩), .int .i64 (o : Int), .int .i64 y] w fun e w' => e = .returned (.tuple #[]) ∧ w' = w.setCell ⟨b, o, none⟩ (.int .i64 (wrap64 (x + y))) := by
  go_enter Try.func12, Try.ntmps12
  go_wp2_with (go_at_call 17; refine (add17 b o x y _ hc hz).mono ?_; rintro e w' ⟨rfl, rfl⟩)
  go_end0
  exact ⟨rfl, rfl⟩
theorem add8 (b : Nat) (o : Nat) (ho : o < 7) (x y : Int) (w : World) (hc : w.cell? ⟨b, o, none⟩ = some (.int .i64 x)) (hz : w.frozen? ⟨b, o, none⟩ = false) :
    Calls Try.prog 8 #[.pointer (some ⟨b, 0, none⟩), .int .i64 (o : Int), .int .i64 y] w fun e w' => e = .returned (.tuple #[]) ∧ w' = w.setCell ⟨b, o, none⟩ (.int .i64 (wrap64 (x + y))) := by
  go_enter Try.func8, Try.ntmps8
  go_wp2_with (go_at_call 12; refine (add12 b o ho x y _ hc hz).mono ?_; rintro e w' ⟨rfl, rfl⟩)
  go_end0
  exact ⟨rfl, rfl⟩
abbrev A7 (x0 x1 x2 x3 x4 x5 x6 : Int) : Array Value := #[.int .i64 x0, .int .i64 x1, .int .i64 x2, .int .i64 x3, .int .i64 x4, .int .i64 x5, .int .i64 x6]
set_option maxHeartbeats 400000 in
set_option maxRecDepth 100000 in
theorem read9 (b : Nat) (x0 x1 x2 x3 x4 x5 x6 : Int) (w : World) (hb : b < w.heap.size) (h0 : w.cell? ⟨b, 0, none⟩ = some (.int .i64 x0)) (h1 : w.cell? ⟨b, 1, none⟩ = some (.int .i64 x1)) (h2 : w.cell? ⟨b, 2, none⟩ = some (.int .i64 x2)) (h3 : w.cell? ⟨b, 3, none⟩ = some (.int .i64 x3)) (h4 : w.cell? ⟨b, 4, none⟩ = some (.int .i64 x4)) (h5 : w.cell? ⟨b, 5, none⟩ = some (.int .i64 x5)) (h6 : w.cell? ⟨b, 6, none⟩ = some (.int .i64 x6)) :
    Calls Try.prog 9 #[.pointer (some ⟨b, 0, none⟩)] w fun e w' => e = .returned (.agg (A7 x0 x1 x2 x3 x4 x5 x6)) ∧ w' = (w.alloc (.cells (A7 x0 x1 x2 x3 x4 x5 x6) 26)).alloc (.cells (A7 x0 x1 x2 x3 x4 x5 x6) 26) := by
  go_enter Try.func9, Try.ntmps9
  go_wp2
  refine wp_loop_rounds 8 ?_
  rw [rounds_succ]
  go_wp2_with (go_at_call 13; refine (load13 b 0 x0 _ (by simp [h0, hb, go_sem])).mono ?_; rintro e w' ⟨rfl, rfl⟩)
  rw [rounds_succ]
  go_wp2_with (go_at_call 13; refine (load13 b 1 x1 _ (by simp [h1, hb, go_sem])).mono ?_; rintro e w' ⟨rfl, rfl⟩)
  rw [rounds_succ]
  go_wp2_with (go_at_call 13; refine (load13 b 2 x2 _ (by simp [h2, hb, go_sem])).mono ?_; rintro e w' ⟨rfl, rfl⟩)
  rw [rounds_succ]
  go_wp2_with (go_at_call 13; refine (load13 b 3 x3 _ (by simp [h3, hb, go_sem])).mono ?_; rintro e w' ⟨rfl, rfl⟩)
  rw [rounds_succ]
  go_wp2_with (go_at_call 13; refine (load13 b 4 x4 _ (by simp [h4, hb, go_sem])).mono ?_; rintro e w' ⟨rfl, rfl⟩)
  rw [rounds_succ]
  go_wp2_with (go_at_call 13; refine (load13 b 5 x5 _ (by simp [h5, hb, go_sem])).mono ?_; rintro e w' ⟨rfl, rfl⟩)
  rw [rounds_succ]
  go_wp2_with (go_at_call 13; refine (load13 b 6 x6 _ (by simp [h6, hb, go_sem])).mono ?_; rintro e w' ⟨rfl, rfl⟩)
  rw [rounds_succ]
  go_wp2_with fail
  exact bodyPost_ret (v := .agg (A7 x0 x1 x2 x3 x4 x5 x6)) (by simp [results, Try.results9, go_sem]) rfl ⟨rfl, rfl⟩

set_option maxHeartbeats 400000 in
set_option maxRecDepth 100000 in
theorem new7 (x0 x1 x2 x3 x4 x5 x6 : Int) (w : World) :
    Calls Try.prog 7 #[.agg (A7 x0 x1 x2 x3 x4 x5 x6)] w fun e w' => e = .returned (.pointer (some ⟨w.heap.size + 1, 0, none⟩)) ∧ w' = ((w.alloc (.cells (A7 x0 x1 x2 x3 x4 x5 x6) 26)).alloc (.cells (A7 x0 x1 x2 x3 x4 x5 x6) 53)).drew.drew.drew.drew.drew.drew.drew := by
  go_enter Try.func7, Try.ntmps7
  go_wp2
  refine wp_loop_rounds 8 ?_
  rw [rounds_succ]
  go_wp2_with fail
  go_region_with (go_at_call 11; refine (store11 (w.heap.size + 1) 0 x0 (.int .i64 0) _ (by simp [go_sem]) (by simp [go_sem])).mono ?_; rintro e w' ⟨rfl, rfl⟩)
  go_wp2_with fail
  rw [rounds_succ]
  go_wp2_with fail
  go_region_with (go_at_call 11; refine (store11 (w.heap.size + 1) 1 x1 (.int .i64 0) _ (by simp [go_sem]) (by simp [go_sem])).mono ?_; rintro e w' ⟨rfl, rfl⟩)
  go_wp2_with fail
  rw [rounds_succ]
  go_wp2_with fail
  go_region_with (go_at_call 11; refine (store11 (w.heap.size + 1) 2 x2 (.int .i64 0) _ (by simp [go_sem]) (by simp [go_sem])).mono ?_; rintro e w' ⟨rfl, rfl⟩)
  go_wp2_with fail
  rw [rounds_succ]
  go_wp2_with fail
  go_region_with (go_at_call 11; refine (store11 (w.heap.size + 1) 3 x3 (.int .i64 0) _ (by simp [go_sem]) (by simp [go_sem])).mono ?_; rintro e w' ⟨rfl, rfl⟩)
  go_wp2_with fail
  rw [rounds_succ]
  go_wp2_with fail
  go_region_with (go_at_call 11; refine (store11 (w.heap.size + 1) 4 x4 (.int .i64 0) _ (by simp [go_sem]) (by simp [go_sem])).mono ?_; rintro e w' ⟨rfl, rfl⟩)
  go_wp2_with fail
  rw [rounds_succ]
  go_wp2_with fail
  go_region_with (go_at_call 11; refine (store11 (w.heap.size + 1) 5 x5 (.int .i64 0) _ (by simp [go_sem]) (by simp [go_sem])).mono ?_; rintro e w' ⟨rfl, rfl⟩)
  go_wp2_with fail
  rw [rounds_succ]
  go_wp2_with fail
  go_region_with (go_at_call 11; refine (store11 (w.heap.size + 1) 6 x6 (.int .i64 0) _ (by simp [go_sem]) (by simp [go_sem])).mono ?_; rintro e w' ⟨rfl, rfl⟩)
  go_wp2_with fail
  rw [rounds_succ]
  go_wp2_with fail
  go_ret
  exact ⟨rfl, rfl⟩
end Go.Proofs.Qxb6613475a
