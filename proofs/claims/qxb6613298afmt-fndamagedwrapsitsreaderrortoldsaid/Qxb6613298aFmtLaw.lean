import Derived.Test.Qxb6613298aFmtWalks
import Derived.LaidEqlPtr
namespace Go.Proofs.Qxb6613298aFmt
open Go.RowKit Go.Extern.Stop Go.Stop Go.Extern

theorem assertUnwrap (x : Value) (w : World) : (Instr.typeAssert (.iface 43 x) 33 38 true).run Tryf.prog w = .ok (.tuple #[.iface 43 x, .bool true]) w := by kernel_rfl
theorem assertIn (x : Value) (w : World) : (Instr.typeAssert (.iface 24 x) 33 24 true).run Tryf.prog w = .ok (.tuple #[x, .bool true]) w := by kernel_rfl
theorem assertOut (x : Value) (w : World) : (Instr.typeAssert (.iface 43 x) 33 24 true).run Tryf.prog w = .ok (.tuple #[.pointer none, .bool false]) w := by kernel_rfl
attribute [local go_sem] assertUnwrap assertIn assertOut

theorem unwrap_any (g : Nat) (v : Value) (w : World) (h : w.cell? ⟨g, 1, none⟩ = some (.iface 24 v)) :
    Calls Tryf.prog 9 #[.iface 43 (.pointer (some ⟨g, 0, none⟩))] w fun e w' => e = .returned (.iface 24 v) ∧ w' = w := by
  go_enter Tryf.func9, Tryf.ntmps9
  go_wp2
  go_ret
  exact ⟨rfl, rfl⟩

set_option maxHeartbeats 800000 in
theorem out_any (F : Interp) (b : Nat) (file what : ByteArray) (pos : Int) (w : World) (hF : F.answers w.tape) (h0 : w.cell? ⟨b, 0, none⟩ = some (.string file)) (h1 : w.cell? ⟨b, 1, none⟩ = some (.int .u32 pos)) (h2 : w.cell? ⟨b, 2, none⟩ = some (.string what)) (hb : b < w.heap.size) :
    Calls Tryf.prog 6 #[.pointer (some ⟨b, 0, none⟩)] w fun e w' => e = .returned (.tuple #[.bool true, .pointer (some ⟨b, 0, none⟩), .bool true, .bool false]) ∧ Below w.heap.size w w' := by
  go_enter Tryf.func6, Tryf.ntmps6
  go_wp2_with fail
  refine (damaged_any F b file what pos w hF h0 h1 h2 hb).mono ?_
  rintro e w1 ⟨g, rfl, hg, bel⟩
  have HB : Hid (Below w.heap.size w w1) := bel
  clear bel h0 h1 h2
  go_wp2_with fail
  refine (unwrap_any g _ w1 hg).mono ?_
  rintro e w2 ⟨rfl, hw⟩
  have hw := hw.symm
  subst hw
  go_wp2
  exact bodyPost_ret (v := .tuple #[.bool true, .pointer (some ⟨b, 0, none⟩), .bool true, .bool false]) (by simp [results, Tryf.results6, go_sem]) rfl ⟨rfl, HB.out⟩

theorem fields_any (b : Nat) (file what : ByteArray) (pos : Int) (w : World) (h0 : w.cell? ⟨b, 0, none⟩ = some (.string file)) (h1 : w.cell? ⟨b, 1, none⟩ = some (.int .u32 pos)) (h2 : w.cell? ⟨b, 2, none⟩ = some (.string what)) :
    Calls Tryf.prog 7 #[.pointer (some ⟨b, 0, none⟩)] w fun e w' => e = .returned (.tuple #[.string file, .int .u32 pos, .string what]) ∧ Below w.heap.size w w' := by
  go_enter Tryf.func7, Tryf.ntmps7
  go_wp2
  go_region
  go_wp2
  go_ret3
  exact ⟨rfl, by go_grown⟩

theorem new_any (file what : ByteArray) (pos : Int) (w : World) :
    Calls Tryf.prog 5 #[.string file, .int .u32 pos, .string what] w fun e w' => e = .returned (.pointer (some ⟨w.heap.size, 0, none⟩)) ∧ w' = w.alloc (.cells #[.string file, .int .u32 pos, .string what] 31) := by
  go_enter Tryf.func5, Tryf.ntmps5
  go_wp2
  go_ret
  exact ⟨rfl, rfl⟩

theorem bytes_yes (f s : ByteArray) (n : Int) (w : World) (h : f.size + s.size ≤ 1048576) :
    Calls Tryf.prog 4 #[.string f, .int .u32 n, .string s] w fun e w' => e = .returned (.bool true) ∧ w' = w := by
  have h1 : f.size ≤ 1048576 := by omega
  have h2 : s.size ≤ 1048576 := by omega
  go_enter Tryf.func4, Tryf.ntmps4
  go_wp2
  go_ret
  exact ⟨rfl, rfl⟩
theorem bytes_no (f s : ByteArray) (n : Int) (w : World) (m0 : f.size ≤ maxLen) (m1 : s.size ≤ maxLen) (h : 1048576 < f.size + s.size) :
    Calls Tryf.prog 4 #[.string f, .int .u32 n, .string s] w fun e w' => e = .returned (.bool false) ∧ w' = w := by
  unfold maxLen at m0 m1
  by_cases h0 : 1048576 < f.size
  · go_enter Tryf.func4, Tryf.ntmps4
    go_wp2
    go_ret
    exact ⟨rfl, rfl⟩
  · by_cases h2 : 1048576 < s.size
    all_goals
      go_enter Tryf.func4, Tryf.ntmps4
      go_wp2
      go_ret
      exact ⟨rfl, rfl⟩

theorem law_out (f s : ByteArray) (n : Int) (w : World) (m0 : f.size ≤ maxLen) (m1 : s.size ≤ maxLen) (h : 1048576 < f.size + s.size) :
    Calls Tryf.prog 3 #[.string f, .int .u32 n, .string s] w fun e w' => e = .returned (.bool true) ∧ Below w.heap.size w w' := by
  go_enter Tryf.func3, Tryf.ntmps3
  go_wp2_with fail
  refine (bytes_no f s n w m0 m1 h).mono ?_
  rintro e w' ⟨rfl, hw⟩
  have hw := hw.symm
  subst hw
  go_wp2
  go_ret
  exact ⟨rfl, Below.refl _ _⟩

set_option maxHeartbeats 800000 in
theorem law_in (F : Interp) (f s : ByteArray) (n : Int) (w : World) (hF : F.answers w.tape) (hs : f.size + s.size ≤ 1048576) :
    Calls Tryf.prog 3 #[.string f, .int .u32 n, .string s] w fun e w' => e = .returned (.bool true) ∧ Below w.heap.size w w' := by
  have hsame := fun (a : Addr) (w : World) => run_eql_ptr_same (P := Tryf.prog) w (tp := 24) (te := 31) (j := Tryf.t31) a Tryf.underlying24 (by kernel_rfl)
  have k0 : f.size ≤ 1048576 := by omega
  have k1 : (s.size : Int) ≤ 1048576 - (f.size : Int) := by omega
  go_enter Tryf.func3, Tryf.ntmps3
  go_wp2_with fail
  refine (bytes_yes f s n w hs).mono ?_
  rintro e w' ⟨rfl, hw⟩
  have hw := hw.symm
  subst hw
  go_wp2_with fail
  refine (new_any f s n w).mono ?_
  rintro e w1 ⟨rfl, hw1⟩
  have e0 : w1.cell? ⟨w.heap.size, 0, none⟩ = some (.string f) := by rw [hw1]; simp
  have e1 : w1.cell? ⟨w.heap.size, 1, none⟩ = some (.int .u32 n) := by rw [hw1]; simp
  have e2 : w1.cell? ⟨w.heap.size, 2, none⟩ = some (.string s) := by rw [hw1]; simp
  have elt : w.heap.size < w1.heap.size := by rw [hw1]; simp
  have HB1 : Hid (Below w.heap.size w w1) := by rw [hw1]; exact (Below.refl _ _).alloc (Nat.le_refl _) _
  clear hw1
  have E0 : Hid (w1.cell? ⟨w.heap.size, 0, none⟩ = some (.string f)) := e0
  have E1 : Hid (w1.cell? ⟨w.heap.size, 1, none⟩ = some (.int .u32 n)) := e1
  have E2 : Hid (w1.cell? ⟨w.heap.size, 2, none⟩ = some (.string s)) := e2
  clear e0 e1 e2
  go_wp2_with fail
  refine (out_any F w.heap.size f s n w1 (by rw [HB1.out.tape]; exact hF) E0.out E1.out E2.out elt).mono ?_
  rintro e w2 ⟨rfl, q2⟩
  have d0 : Hid (w2.cell? ⟨w.heap.size, 0, none⟩ = some (.string f)) := (q2.cell (p := ⟨w.heap.size, 0, none⟩) elt).trans E0.out
  have d1 : Hid (w2.cell? ⟨w.heap.size, 1, none⟩ = some (.int .u32 n)) := (q2.cell (p := ⟨w.heap.size, 1, none⟩) elt).trans E1.out
  have d2 : Hid (w2.cell? ⟨w.heap.size, 2, none⟩ = some (.string s)) := (q2.cell (p := ⟨w.heap.size, 2, none⟩) elt).trans E2.out
  have HB2 : Hid (Below w.heap.size w w2) := HB1.out.trans (q2.mono HB1.out.size)
  clear q2 HB1 E0 E1 E2
  go_wp2_with fail
  refine (fields_any w.heap.size f s n w2 d0.out d1.out d2.out).mono ?_
  rintro e w3 ⟨rfl, q3⟩
  have HB3 : Hid (Below w.heap.size w w3) := HB2.out.trans (q3.mono HB2.out.size)
  clear q3 HB2 d0 d1 d2
  go_wp2
  go_ret
  exact ⟨rfl, HB3.out⟩
end Go.Proofs.Qxb6613298aFmt
