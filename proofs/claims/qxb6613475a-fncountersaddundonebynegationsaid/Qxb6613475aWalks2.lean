import Derived.Test.Qxb6613475aWalks
import Derived.ChangeKeysEq
namespace Go.Proofs.Qxb6613475a
open Go.RowKit
theorem eq26 (y0 y1 y2 y3 y4 y5 y6 : Int) (w : World) : (Op.equalIn 10000 26 (.agg #[.int .i64 y0, .int .i64 y1, .int .i64 y2, .int .i64 y3, .int .i64 y4, .int .i64 y5, .int .i64 y6]) (.agg #[.int .i64 y0, .int .i64 y1, .int .i64 y2, .int .i64 y3, .int .i64 y4, .int .i64 y5, .int .i64 y6])).run Try.prog w = .ok true w := by
  rw [run_equalIn_array (P := Try.prog) w 9999 _ _ Try.underlying26 (i := Try.t2) (by kernel_rfl)]
  have c2 : Try.prog.cellsOf 2 = 1 := by kernel_rfl
  rw [c2, show List.range 7 = [0, 1, 2, 3, 4, 5, 6] from rfl]
  simp [Op.eqItems, go_sem]
theorem add8i (b : Nat) (oi : Int) (o : Nat) (e : oi = (o : Int)) (ho : o < 7) (x y : Int) (w : World) (hc : w.cell? ⟨b, o, none⟩ = some (.int .i64 x)) (hz : w.frozen? ⟨b, o, none⟩ = false) :
    Calls Try.prog 8 #[.pointer (some ⟨b, 0, none⟩), .int .i64 oi, .int .i64 y] w fun e w' => e = .returned (.tuple #[]) ∧ w' = w.setCell ⟨b, o, none⟩ (.int .i64 (wrap64 (x + y))) := by
  rw [e]
  exact add8 b o ho x y w hc hz
set_option maxHeartbeats 400000 in
set_option maxRecDepth 100000 in
theorem out4 (x0 x1 x2 x3 x4 x5 x6 o n : Int) (w : World) (ho : o < 0 ∨ 6 < o) :
    Calls Try.prog 4 #[.agg (A7 x0 x1 x2 x3 x4 x5 x6), .int .i64 o, .int .i64 n] w fun e w' => e = .returned (.bool true) ∧ w' = w.alloc (.cells (A7 x0 x1 x2 x3 x4 x5 x6) 26) := by
  rcases ho with h | h
  · go_enter Try.func4, Try.ntmps4
    go_wp2
    go_ret
    exact ⟨rfl, rfl⟩
  · have h' : ¬ o < 0 := by omega
    go_enter Try.func4, Try.ntmps4
    go_wp2
    go_ret
    exact ⟨rfl, rfl⟩


set_option maxHeartbeats 800000 in
set_option maxRecDepth 100000 in
theorem in4_0 (x0 x1 x2 x3 x4 x5 x6 n : Int) (w : World) (hun : wrap64 (wrap64 (x0 + n) + wrap64 (-n)) = x0) :
    Calls Try.prog 4 #[.agg (A7 x0 x1 x2 x3 x4 x5 x6), .int .i64 0, .int .i64 n] w fun e w' => e = .returned (.bool true) ∧ Below w.heap.size w w' := by
  have heq := eq26
  go_enter Try.func4, Try.ntmps4
  go_wp2_with fail
  refine (new7 x0 x1 x2 x3 x4 x5 x6 _).mono ?_
  rintro e w' ⟨rfl, rfl⟩
  go_wp2_with fail
  refine (add8i (w.heap.size + 1 + 1) 0 0 rfl (by omega) x0 n _ (by simp [go_sem]) (by simp [go_sem])).mono ?_
  rintro e w' ⟨rfl, rfl⟩
  go_wp2_with fail
  refine (read9 (w.heap.size + 1 + 1) (wrap64 (x0 + n)) x1 x2 x3 x4 x5 x6 _ (by simp) (by simp [go_sem]) (by simp [go_sem]) (by simp [go_sem]) (by simp [go_sem]) (by simp [go_sem]) (by simp [go_sem]) (by simp [go_sem])).mono ?_
  rintro e w' ⟨rfl, rfl⟩
  go_wp2_with fail
  refine (add8i (w.heap.size + 1 + 1) 0 0 rfl (by omega) (wrap64 (x0 + n)) (wrap64 (-n)) _ (by simp [go_sem]) (by simp [go_sem])).mono ?_
  rintro e w' ⟨rfl, rfl⟩
  rw [hun]
  go_wp2_with fail
  refine (read9 (w.heap.size + 1 + 1) x0 x1 x2 x3 x4 x5 x6 _ (by simp) (by simp [go_sem]) (by simp [go_sem]) (by simp [go_sem]) (by simp [go_sem]) (by simp [go_sem]) (by simp [go_sem]) (by simp [go_sem])).mono ?_
  rintro e w' ⟨rfl, rfl⟩
  go_wp2_with fail
  go_ret
  refine ⟨rfl, ?_⟩
  go_grown

set_option maxHeartbeats 800000 in
set_option maxRecDepth 100000 in
theorem in4_1 (x0 x1 x2 x3 x4 x5 x6 n : Int) (w : World) (hun : wrap64 (wrap64 (x1 + n) + wrap64 (-n)) = x1) :
    Calls Try.prog 4 #[.agg (A7 x0 x1 x2 x3 x4 x5 x6), .int .i64 1, .int .i64 n] w fun e w' => e = .returned (.bool true) ∧ Below w.heap.size w w' := by
  have heq := eq26
  go_enter Try.func4, Try.ntmps4
  go_wp2_with fail
  refine (new7 x0 x1 x2 x3 x4 x5 x6 _).mono ?_
  rintro e w' ⟨rfl, rfl⟩
  go_wp2_with fail
  refine (add8i (w.heap.size + 1 + 1) 1 1 rfl (by omega) x1 n _ (by simp [go_sem]) (by simp [go_sem])).mono ?_
  rintro e w' ⟨rfl, rfl⟩
  go_wp2_with fail
  refine (read9 (w.heap.size + 1 + 1) x0 (wrap64 (x1 + n)) x2 x3 x4 x5 x6 _ (by simp) (by simp [go_sem]) (by simp [go_sem]) (by simp [go_sem]) (by simp [go_sem]) (by simp [go_sem]) (by simp [go_sem]) (by simp [go_sem])).mono ?_
  rintro e w' ⟨rfl, rfl⟩
  go_wp2_with fail
  refine (add8i (w.heap.size + 1 + 1) 1 1 rfl (by omega) (wrap64 (x1 + n)) (wrap64 (-n)) _ (by simp [go_sem]) (by simp [go_sem])).mono ?_
  rintro e w' ⟨rfl, rfl⟩
  rw [hun]
  go_wp2_with fail
  refine (read9 (w.heap.size + 1 + 1) x0 x1 x2 x3 x4 x5 x6 _ (by simp) (by simp [go_sem]) (by simp [go_sem]) (by simp [go_sem]) (by simp [go_sem]) (by simp [go_sem]) (by simp [go_sem]) (by simp [go_sem])).mono ?_
  rintro e w' ⟨rfl, rfl⟩
  go_wp2_with fail
  go_ret
  refine ⟨rfl, ?_⟩
  go_grown

set_option maxHeartbeats 800000 in
set_option maxRecDepth 100000 in
theorem in4_2 (x0 x1 x2 x3 x4 x5 x6 n : Int) (w : World) (hun : wrap64 (wrap64 (x2 + n) + wrap64 (-n)) = x2) :
    Calls Try.prog 4 #[.agg (A7 x0 x1 x2 x3 x4 x5 x6), .int .i64 2, .int .i64 n] w fun e w' => e = .returned (.bool true) ∧ Below w.heap.size w w' := by
  have heq := eq26
  go_enter Try.func4, Try.ntmps4
  go_wp2_with fail
  refine (new7 x0 x1 x2 x3 x4 x5 x6 _).mono ?_
  rintro e w' ⟨rfl, rfl⟩
  go_wp2_with fail
  refine (add8i (w.heap.size + 1 + 1) 2 2 rfl (by omega) x2 n _ (by simp [go_sem]) (by simp [go_sem])).mono ?_
  rintro e w' ⟨rfl, rfl⟩
  go_wp2_with fail
  refine (read9 (w.heap.size + 1 + 1) x0 x1 (wrap64 (x2 + n)) x3 x4 x5 x6 _ (by simp) (by simp [go_sem]) (by simp [go_sem]) (by simp [go_sem]) (by simp [go_sem]) (by simp [go_sem]) (by simp [go_sem]) (by simp [go_sem])).mono ?_
  rintro e w' ⟨rfl, rfl⟩
  go_wp2_with fail
  refine (add8i (w.heap.size + 1 + 1) 2 2 rfl (by omega) (wrap64 (x2 + n)) (wrap64 (-n)) _ (by simp [go_sem]) (by simp [go_sem])).mono ?_
  rintro e w' ⟨rfl, rfl⟩
  rw [hun]
  go_wp2_with fail
  refine (read9 (w.heap.size + 1 + 1) x0 x1 x2 x3 x4 x5 x6 _ (by simp) (by simp [go_sem]) (by simp [go_sem]) (by simp [go_sem]) (by simp [go_sem]) (by simp [go_sem]) (by simp [go_sem]) (by simp [go_sem])).mono ?_
  rintro e w' ⟨rfl, rfl⟩
  go_wp2_with fail
  go_ret
  refine ⟨rfl, ?_⟩
  go_grown

set_option maxHeartbeats 800000 in
set_option maxRecDepth 100000 in
theorem in4_3 (x0 x1 x2 x3 x4 x5 x6 n : Int) (w : World) (hun : wrap64 (wrap64 (x3 + n) + wrap64 (-n)) = x3) :
    Calls Try.prog 4 #[.agg (A7 x0 x1 x2 x3 x4 x5 x6), .int .i64 3, .int .i64 n] w fun e w' => e = .returned (.bool true) ∧ Below w.heap.size w w' := by
  have heq := eq26
  go_enter Try.func4, Try.ntmps4
  go_wp2_with fail
  refine (new7 x0 x1 x2 x3 x4 x5 x6 _).mono ?_
  rintro e w' ⟨rfl, rfl⟩
  go_wp2_with fail
  refine (add8i (w.heap.size + 1 + 1) 3 3 rfl (by omega) x3 n _ (by simp [go_sem]) (by simp [go_sem])).mono ?_
  rintro e w' ⟨rfl, rfl⟩
  go_wp2_with fail
  refine (read9 (w.heap.size + 1 + 1) x0 x1 x2 (wrap64 (x3 + n)) x4 x5 x6 _ (by simp) (by simp [go_sem]) (by simp [go_sem]) (by simp [go_sem]) (by simp [go_sem]) (by simp [go_sem]) (by simp [go_sem]) (by simp [go_sem])).mono ?_
  rintro e w' ⟨rfl, rfl⟩
  go_wp2_with fail
  refine (add8i (w.heap.size + 1 + 1) 3 3 rfl (by omega) (wrap64 (x3 + n)) (wrap64 (-n)) _ (by simp [go_sem]) (by simp [go_sem])).mono ?_
  rintro e w' ⟨rfl, rfl⟩
  rw [hun]
  go_wp2_with fail
  refine (read9 (w.heap.size + 1 + 1) x0 x1 x2 x3 x4 x5 x6 _ (by simp) (by simp [go_sem]) (by simp [go_sem]) (by simp [go_sem]) (by simp [go_sem]) (by simp [go_sem]) (by simp [go_sem]) (by simp [go_sem])).mono ?_
  rintro e w' ⟨rfl, rfl⟩
  go_wp2_with fail
  go_ret
  refine ⟨rfl, ?_⟩
  go_grown

set_option maxHeartbeats 800000 in
set_option maxRecDepth 100000 in
theorem in4_4 (x0 x1 x2 x3 x4 x5 x6 n : Int) (w : World) (hun : wrap64 (wrap64 (x4 + n) + wrap64 (-n)) = x4) :
    Calls Try.prog 4 #[.agg (A7 x0 x1 x2 x3 x4 x5 x6), .int .i64 4, .int .i64 n] w fun e w' => e = .returned (.bool true) ∧ Below w.heap.size w w' := by
  have heq := eq26
  go_enter Try.func4, Try.ntmps4
  go_wp2_with fail
  refine (new7 x0 x1 x2 x3 x4 x5 x6 _).mono ?_
  rintro e w' ⟨rfl, rfl⟩
  go_wp2_with fail
  refine (add8i (w.heap.size + 1 + 1) 4 4 rfl (by omega) x4 n _ (by simp [go_sem]) (by simp [go_sem])).mono ?_
  rintro e w' ⟨rfl, rfl⟩
  go_wp2_with fail
  refine (read9 (w.heap.size + 1 + 1) x0 x1 x2 x3 (wrap64 (x4 + n)) x5 x6 _ (by simp) (by simp [go_sem]) (by simp [go_sem]) (by simp [go_sem]) (by simp [go_sem]) (by simp [go_sem]) (by simp [go_sem]) (by simp [go_sem])).mono ?_
  rintro e w' ⟨rfl, rfl⟩
  go_wp2_with fail
  refine (add8i (w.heap.size + 1 + 1) 4 4 rfl (by omega) (wrap64 (x4 + n)) (wrap64 (-n)) _ (by simp [go_sem]) (by simp [go_sem])).mono ?_
  rintro e w' ⟨rfl, rfl⟩
  rw [hun]
  go_wp2_with fail
  refine (read9 (w.heap.size + 1 + 1) x0 x1 x2 x3 x4 x5 x6 _ (by simp) (by simp [go_sem]) (by simp [go_sem]) (by simp [go_sem]) (by simp [go_sem]) (by simp [go_sem]) (by simp [go_sem]) (by simp [go_sem])).mono ?_
  rintro e w' ⟨rfl, rfl⟩
  go_wp2_with fail
  go_ret
  refine ⟨rfl, ?_⟩
  go_grown

set_option maxHeartbeats 800000 in
set_option maxRecDepth 100000 in
theorem in4_5 (x0 x1 x2 x3 x4 x5 x6 n : Int) (w : World) (hun : wrap64 (wrap64 (x5 + n) + wrap64 (-n)) = x5) :
    Calls Try.prog 4 #[.agg (A7 x0 x1 x2 x3 x4 x5 x6), .int .i64 5, .int .i64 n] w fun e w' => e = .returned (.bool true) ∧ Below w.heap.size w w' := by
  have heq := eq26
  go_enter Try.func4, Try.ntmps4
  go_wp2_with fail
  refine (new7 x0 x1 x2 x3 x4 x5 x6 _).mono ?_
  rintro e w' ⟨rfl, rfl⟩
  go_wp2_with fail
  refine (add8i (w.heap.size + 1 + 1) 5 5 rfl (by omega) x5 n _ (by simp [go_sem]) (by simp [go_sem])).mono ?_
  rintro e w' ⟨rfl, rfl⟩
  go_wp2_with fail
  refine (read9 (w.heap.size + 1 + 1) x0 x1 x2 x3 x4 (wrap64 (x5 + n)) x6 _ (by simp) (by simp [go_sem]) (by simp [go_sem]) (by simp [go_sem]) (by simp [go_sem]) (by simp [go_sem]) (by simp [go_sem]) (by simp [go_sem])).mono ?_
  rintro e w' ⟨rfl, rfl⟩
  go_wp2_with fail
  refine (add8i (w.heap.size + 1 + 1) 5 5 rfl (by omega) (wrap64 (x5 + n)) (wrap64 (-n)) _ (by simp [go_sem]) (by simp [go_sem])).mono ?_
  rintro e w' ⟨rfl, rfl⟩
  rw [hun]
  go_wp2_with fail
  refine (read9 (w.heap.size + 1 + 1) x0 x1 x2 x3 x4 x5 x6 _ (by simp) (by simp [go_sem]) (by simp [go_sem]) (by simp [go_sem]) (by simp [go_sem]) (by simp [go_sem]) (by simp [go_sem]) (by simp [go_sem])).mono ?_
  rintro e w' ⟨rfl, rfl⟩
  go_wp2_with fail
  go_ret
  refine ⟨rfl, ?_⟩
  go_grown

set_option maxHeartbeats 800000 in
set_option maxRecDepth 100000 in
theorem in4_6 (x0 x1 x2 x3 x4 x5 x6 n : Int) (w : World) (hun : wrap64 (wrap64 (x6 + n) + wrap64 (-n)) = x6) :
    Calls Try.prog 4 #[.agg (A7 x0 x1 x2 x3 x4 x5 x6), .int .i64 6, .int .i64 n] w fun e w' => e = .returned (.bool true) ∧ Below w.heap.size w w' := by
  have heq := eq26
  go_enter Try.func4, Try.ntmps4
  go_wp2_with fail
  refine (new7 x0 x1 x2 x3 x4 x5 x6 _).mono ?_
  rintro e w' ⟨rfl, rfl⟩
  go_wp2_with fail
  refine (add8i (w.heap.size + 1 + 1) 6 6 rfl (by omega) x6 n _ (by simp [go_sem]) (by simp [go_sem])).mono ?_
  rintro e w' ⟨rfl, rfl⟩
  go_wp2_with fail
  refine (read9 (w.heap.size + 1 + 1) x0 x1 x2 x3 x4 x5 (wrap64 (x6 + n)) _ (by simp) (by simp [go_sem]) (by simp [go_sem]) (by simp [go_sem]) (by simp [go_sem]) (by simp [go_sem]) (by simp [go_sem]) (by simp [go_sem])).mono ?_
  rintro e w' ⟨rfl, rfl⟩
  go_wp2_with fail
  refine (add8i (w.heap.size + 1 + 1) 6 6 rfl (by omega) (wrap64 (x6 + n)) (wrap64 (-n)) _ (by simp [go_sem]) (by simp [go_sem])).mono ?_
  rintro e w' ⟨rfl, rfl⟩
  rw [hun]
  go_wp2_with fail
  refine (read9 (w.heap.size + 1 + 1) x0 x1 x2 x3 x4 x5 x6 _ (by simp) (by simp [go_sem]) (by simp [go_sem]) (by simp [go_sem]) (by simp [go_sem]) (by simp [go_sem]) (by simp [go_sem]) (by simp [go_sem])).mono ?_
  rintro e w' ⟨rfl, rfl⟩
  go_wp2_with fail
  go_ret
  refine ⟨rfl, ?_⟩
  go_grown

theorem undo (x n : Int) (h0 : -9223372036854775808 ≤ x) (h1 : x ≤ 9223372036854775807) : wrap64 (wrap64 (x + n) + wrap64 (-n)) = x := by
  simp only [wrap64]
  omega
end Go.Proofs.Qxb6613475a
