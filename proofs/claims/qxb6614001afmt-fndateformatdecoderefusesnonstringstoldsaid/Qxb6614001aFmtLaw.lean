import Derived.Test.Qxb6614001aFmtWalks
namespace Go.Proofs.Qxb6614001aFmt
open Go.RowKit Go.Extern.Stop Go.Stop Go.Extern

theorem decode_int (F : Interp) (h : ByteArray) (n : Int) (w : World) (hF : F.answers w.tape) :
    Calls Tryf.prog 7 #[.string h, .int .i64 n] w fun e w' => ∃ a, e = .returned (.tuple #[.string h, .iface 40 (.pointer (some a))]) ∧ Below w.heap.size w w' := by
  go_enter Tryf.func7, Tryf.ntmps7
  go_wp2_with fail
  refine (unmarshal_int F ⟨w.heap.size, 0, none⟩ n _ (by exact hF)).mono ?_
  rintro e w1 ⟨rfl, hb⟩
  have hc : w1.cell? ⟨w.heap.size, 0, none⟩ = some (.string h) := (hb.cell (p := ⟨w.heap.size, 0, none⟩) (by simp)).trans (by simp)
  have HB : Hid (Below w.heap.size w w1) := ((Below.refl _ _).alloc (Nat.le_refl _) _).trans (hb.mono (by simp))
  clear hb
  go_wp2
  go_ret2
  exact ⟨_, rfl, HB.out⟩
theorem decode_bool (F : Interp) (h : ByteArray) (b : Bool) (w : World) (hF : F.answers w.tape) :
    Calls Tryf.prog 8 #[.string h, .bool b] w fun e w' => ∃ a, e = .returned (.tuple #[.string h, .iface 40 (.pointer (some a))]) ∧ Below w.heap.size w w' := by
  go_enter Tryf.func8, Tryf.ntmps8
  go_wp2_with fail
  refine (unmarshal_bool F ⟨w.heap.size, 0, none⟩ b _ (by exact hF)).mono ?_
  rintro e w1 ⟨rfl, hb⟩
  have hc : w1.cell? ⟨w.heap.size, 0, none⟩ = some (.string h) := (hb.cell (p := ⟨w.heap.size, 0, none⟩) (by simp)).trans (by simp)
  have HB : Hid (Below w.heap.size w w1) := ((Below.refl _ _).alloc (Nat.le_refl _) _).trans (hb.mono (by simp))
  clear hb
  go_wp2
  go_ret2
  exact ⟨_, rfl, HB.out⟩
theorem decode_string (F : Interp) (f s : ByteArray) (w : World) (hF : F.answers w.tape) :
    Calls Tryf.prog 6 #[.string f, .string s] w fun e w' => ∃ h v, e = .returned (.tuple #[.string h, v]) ∧ Below w.heap.size w w' := by
  cases h1 : (s.toList == [89, 89, 89, 89, 45, 77, 77, 45, 68, 68])
  · cases h2 : (s.toList == [77, 47, 68, 47, 89, 89, 89, 89])
    · go_enter Tryf.func6, Tryf.ntmps6
      go_wp2_with fail
      refine (unmarshal_string_bad F ⟨w.heap.size, 0, none⟩ s _ (by exact hF) h1 h2).mono ?_
      rintro e w1 ⟨rfl, hb⟩
      have hc : w1.cell? ⟨w.heap.size, 0, none⟩ = some (.string f) := (hb.cell (p := ⟨w.heap.size, 0, none⟩) (by simp)).trans (by simp)
      have HB : Hid (Below w.heap.size w w1) := ((Below.refl _ _).alloc (Nat.le_refl _) _).trans (hb.mono (by simp))
      clear hb
      go_wp2
      go_ret2
      exact ⟨_, _, rfl, HB.out⟩
    · go_enter Tryf.func6, Tryf.ntmps6
      go_wp2_with fail
      refine (unmarshal_string_us w.heap.size s f _ (by simp) (by simp) h1 h2).mono ?_
      rintro e w1 ⟨rfl, rfl⟩
      go_wp2
      go_ret2
      exact ⟨_, _, rfl, by go_grown⟩
  · go_enter Tryf.func6, Tryf.ntmps6
    go_wp2_with fail
    refine (unmarshal_string_iso w.heap.size s f _ (by simp) (by simp) h1).mono ?_
    rintro e w1 ⟨rfl, rfl⟩
    go_wp2
    go_ret2
    exact ⟨_, _, rfl, by go_grown⟩

theorem bytes_yes (f s : ByteArray) (n : Int) (b : Bool) (w : World) (h : f.size + s.size ≤ 1048576) :
    Calls Tryf.prog 4 #[.string f, .string s, .int .i64 n, .bool b] w fun e w' => e = .returned (.bool true) ∧ w' = w := by
  have h1 : f.size ≤ 1048576 := by omega
  have h2 : s.size ≤ 1048576 := by omega
  go_enter Tryf.func4, Tryf.ntmps4
  go_wp2
  go_ret
  exact ⟨rfl, rfl⟩
theorem bytes_no (f s : ByteArray) (n : Int) (b : Bool) (w : World) (m0 : f.size ≤ maxLen) (m1 : s.size ≤ maxLen) (h : 1048576 < f.size + s.size) :
    Calls Tryf.prog 4 #[.string f, .string s, .int .i64 n, .bool b] w fun e w' => e = .returned (.bool false) ∧ w' = w := by
  unfold maxLen at m0 m1
  by_cases h0 : 1048576 < f.size
  · go_enter Tryf.func4, Tryf.ntmps4
    go_wp2
    go_ret
    exact ⟨rfl, rfl⟩
  · by_cases h2 : 1048576 < s.size
    all_goals
      go_enter Tryf.func4, Tryf.ntmps4
      go_wp2
      go_ret
      exact ⟨rfl, rfl⟩
theorem target_any (f : ByteArray) (w : World) :
    Calls Tryf.prog 5 #[.string f] w fun e w' => (∃ r, e = .returned (.bool r)) ∧ w' = w := by
  go_enter Tryf.func5, Tryf.ntmps5
  go_wp2
  all_goals (go_ret; exact ⟨⟨_, rfl⟩, rfl⟩)

set_option maxHeartbeats 800000 in
theorem law_in (F : Interp) (f s : ByteArray) (n : Int) (b : Bool) (w : World) (hF : F.answers w.tape) (hs : f.size + s.size ≤ 1048576) :
    Calls Tryf.prog 3 #[.string f, .string s, .int .i64 n, .bool b] w fun e w' => e = .returned (.bool true) ∧ Below w.heap.size w w' := by
  have k0 : f.size ≤ 1048576 := by omega
  have k1 : s.size ≤ 1048576 := by omega
  go_enter Tryf.func3, Tryf.ntmps3
  go_wp2_with fail
  refine (bytes_yes f s n b w hs).mono ?_
  rintro e w' ⟨rfl, hw⟩
  have hw := hw.symm
  subst hw
  go_wp2_with fail
  refine (target_any f w).mono ?_
  rintro e w' ⟨⟨r, rfl⟩, hw⟩
  have hw := hw.symm
  subst hw
  cases r with
  | false =>
    go_wp2
    go_ret
    exact ⟨rfl, Below.refl _ _⟩
  | true =>
    go_wp2_with fail
    refine (decode_string F f s w hF).mono ?_
    rintro e w1 ⟨h, v, rfl, q1⟩
    have HB1 : Hid (Below w.heap.size w w1) := q1
    clear q1
    go_wp2_with fail
    refine (decode_int F h n w1 (by rw [HB1.out.tape]; exact hF)).mono ?_
    rintro e w2 ⟨a2, rfl, q2⟩
    have HB2 : Hid (Below w.heap.size w w2) := HB1.out.trans (q2.mono HB1.out.size)
    clear q2 HB1
    go_wp2_with fail
    refine (decode_bool F h b w2 (by rw [HB2.out.tape]; exact hF)).mono ?_
    rintro e w3 ⟨a3, rfl, q3⟩
    have HB3 : Hid (Below w.heap.size w w3) := HB2.out.trans (q3.mono HB2.out.size)
    clear q3 HB2
    go_wp2
    go_ret
    exact ⟨rfl, HB3.out⟩
theorem law_out (f s : ByteArray) (n : Int) (b : Bool) (w : World) (m0 : f.size ≤ maxLen) (m1 : s.size ≤ maxLen) (h : 1048576 < f.size + s.size) :
    Calls Tryf.prog 3 #[.string f, .string s, .int .i64 n, .bool b] w fun e w' => e = .returned (.bool true) ∧ Below w.heap.size w w' := by
  go_enter Tryf.func3, Tryf.ntmps3
  go_wp2_with fail
  refine (bytes_no f s n b w m0 m1 h).mono ?_
  rintro e w' ⟨rfl, hw⟩
  have hw := hw.symm
  subst hw
  go_wp2
  go_ret
  exact ⟨rfl, Below.refl _ _⟩
end Go.Proofs.Qxb6614001aFmt
