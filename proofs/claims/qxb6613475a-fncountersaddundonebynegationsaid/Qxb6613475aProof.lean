import Derived.Test.Qxb6613475aRows
import Derived.Test.Qxb6613475aWalks2
import Derived.WalkKit
import Derived.ProofKit
import Derived.OpenShut
import Derived.ShutString
import Derived.ChangeOld
import Derived.Below
namespace Go.Proofs.Qxb6613475a.fnCountersAddUndoneByNegation
open Go.ChangeShapes Go.WideShapes Go.ChangeAt Go.RowKit
set_option linter.unusedVariables false

theorem own : ownKnob Try.prog.godebug = none := by kernel_rfl
theorem laidOut : laidOutB Try.prog = true := by kernel_rfl
theorem cells26 : Try.prog.cellsOf 26 = 7 := by kernel_rfl
theorem cells2 : Try.prog.cellsOf 2 = 1 := by kernel_rfl

theorem list7 {α : Type} (l : List α) (h : l.length = 7) : ∃ a b c d e f g, l = [a, b, c, d, e, f, g] := by
  match l, h with
  | [a, b, c, d, e, f, g], _ => exact ⟨a, b, c, d, e, f, g, rfl⟩

theorem int64_bounds {x : Int} (h : (Lit.int .i64 x).wf = true) : -9223372036854775808 ≤ x ∧ x ≤ 9223372036854775807 := by
  simpa [Lit.wf, IntKind.min, IntKind.max, IntKind.signed, IntKind.bits] using h

/-- An array of seven int64, read as data: its seven numbers. -/
theorem open7 {H : Type} {enc : TypeId × Value → H} {w : World} {base : Nat} {spare : Nat → Bool} {held : Bool} {fuel : Nat} {cs : List Value} {x : DataW H × List MemPlace}
    (h : DataW.trod enc Try.prog w base spare held fuel 26 cs = some x) :
    ∃ x0 x1 x2 x3 x4 x5 x6 : Int, cs = [.int .i64 x0, .int .i64 x1, .int .i64 x2, .int .i64 x3, .int .i64 x4, .int .i64 x5, .int .i64 x6] ∧
      (Lit.int .i64 x0).wf = true ∧ (Lit.int .i64 x1).wf = true ∧ (Lit.int .i64 x2).wf = true ∧ (Lit.int .i64 x3).wf = true ∧ (Lit.int .i64 x4).wf = true ∧ (Lit.int .i64 x5).wf = true ∧ (Lit.int .i64 x6).wf = true := by
  obtain ⟨xs, m, _, _, hl, hn, hi⟩ := DataW.trod_array Try.underlying26 h
  rw [cells26] at hl
  rw [cells2] at hi
  obtain ⟨c0, c1, c2, c3, c4, c5, c6, rfl⟩ := list7 cs hl
  obtain ⟨y0, y1, y2, y3, y4, y5, y6, rfl⟩ := list7 xs hn
  obtain ⟨x0, e0, _, w0⟩ := DataW.trod_int Try.underlying2 (hi 0 (by omega))
  obtain ⟨x1, e1, _, w1⟩ := DataW.trod_int Try.underlying2 (hi 1 (by omega))
  obtain ⟨x2, e2, _, w2⟩ := DataW.trod_int Try.underlying2 (hi 2 (by omega))
  obtain ⟨x3, e3, _, w3⟩ := DataW.trod_int Try.underlying2 (hi 3 (by omega))
  obtain ⟨x4, e4, _, w4⟩ := DataW.trod_int Try.underlying2 (hi 4 (by omega))
  obtain ⟨x5, e5, _, w5⟩ := DataW.trod_int Try.underlying2 (hi 5 (by omega))
  obtain ⟨x6, e6, _, w6⟩ := DataW.trod_int Try.underlying2 (hi 6 (by omega))
  simp at e0 e1 e2 e3 e4 e5 e6
  subst e0 e1 e2 e3 e4 e5 e6
  exact ⟨x0, x1, x2, x3, x4, x5, x6, rfl, w0, w1, w2, w3, w4, w5, w6⟩

/-- THE WALK, WHATEVER THE OUTCOME'S NUMBER. -/
theorem walk (x0 x1 x2 x3 x4 x5 x6 o n : Int) (w : World) (w0 : (Lit.int .i64 x0).wf = true) (w1 : (Lit.int .i64 x1).wf = true) (w2 : (Lit.int .i64 x2).wf = true) (w3 : (Lit.int .i64 x3).wf = true) (w4 : (Lit.int .i64 x4).wf = true) (w5 : (Lit.int .i64 x5).wf = true) (w6 : (Lit.int .i64 x6).wf = true) :
    Calls Try.prog 4 #[.agg (A7 x0 x1 x2 x3 x4 x5 x6), .int .i64 o, .int .i64 n] w fun e w' => e = .returned (.bool true) ∧ Below w.heap.size w w' := by
  by_cases hout : o < 0 ∨ 6 < o
  · refine (out4 x0 x1 x2 x3 x4 x5 x6 o n w hout).mono ?_
    rintro e w' ⟨rfl, rfl⟩
    exact ⟨rfl, (Below.refl _ _).alloc (Nat.le_refl _) _⟩
  · have ho : o = 0 ∨ o = 1 ∨ o = 2 ∨ o = 3 ∨ o = 4 ∨ o = 5 ∨ o = 6 := by omega
    rcases ho with rfl | rfl | rfl | rfl | rfl | rfl | rfl
    · exact in4_0 x0 x1 x2 x3 x4 x5 x6 n w (undo x0 n (int64_bounds w0).1 (int64_bounds w0).2)
    · exact in4_1 x0 x1 x2 x3 x4 x5 x6 n w (undo x1 n (int64_bounds w1).1 (int64_bounds w1).2)
    · exact in4_2 x0 x1 x2 x3 x4 x5 x6 n w (undo x2 n (int64_bounds w2).1 (int64_bounds w2).2)
    · exact in4_3 x0 x1 x2 x3 x4 x5 x6 n w (undo x3 n (int64_bounds w3).1 (int64_bounds w3).2)
    · exact in4_4 x0 x1 x2 x3 x4 x5 x6 n w (undo x4 n (int64_bounds w4).1 (int64_bounds w4).2)
    · exact in4_5 x0 x1 x2 x3 x4 x5 x6 n w (undo x5 n (int64_bounds w5).1 (int64_bounds w5).2)
    · exact in4_6 x0 x1 x2 x3 x4 x5 x6 n w (undo x6 n (int64_bounds w6).1 (int64_bounds w6).2)

set_option maxRecDepth 100000 in
theorem lifted (os : Os) (started : os.Started) (H : Type) (enc : TypeId × Value → H) :
    ReturnsInHanded {} Try.checked os 4 .any (Rows.fnCountersAddUndoneByNegationSpec.pre6 enc Try.prog Try.f4 Rows.fnCountersAddUndoneByNegationRow.domain false) (Rows.fnCountersAddUndoneByNegationSpec.post enc Try.prog Try.f4 false true false false) := by
  refine returnsInHanded_of_change (C := Try.checked) own started (by kernel_rfl) Try.func4
    (ChangeSpec.witness6 (enc := enc) (C := Try.checked) false ⟨#[], #[.agg #[.int .i64 0, .int .i64 0, .int .i64 0, .int .i64 0, .int .i64 0, .int .i64 0, .int .i64 0], .int .i64 0, .int .i64 0], []⟩ 8 (by kernel_rfl) (by kernel_rfl) (by kernel_rfl) (by kernel_rfl)) ?_
  intro W base args ds gs before hval0 hW hcnd _
  have hval : ∀ (j : Nat) t v, Try.f4.params[j]? = some t → args[j]? = some v → Value.okWide Try.prog W .any base t v := hval0
  have hW' := hW
  obtain ⟨p, q, hA0, hV, rfl, hfz, hnd⟩ := hW
  have hA : DataW.TrodAll enc Try.prog W 0 (fun _ => true) true Try.f4.params.toList args.toList ds p := hA0
  rw [Try.params4] at hA hval
  obtain ⟨v0, vs0, d0, ds0, p0, q0, hargs, rfl, rfl, h0, r0⟩ := trodAll_cons hA
  obtain ⟨v1, vs1, d1, ds1, p1, q1, rfl, rfl, rfl, h1, r1⟩ := trodAll_cons r0
  obtain ⟨v2, vs2, d2, ds2, p2, q2, rfl, rfl, rfl, h2, r2⟩ := trodAll_cons r1
  obtain ⟨rfl, rfl, rfl⟩ := trodAll_nil r2
  obtain rfl : args = #[v0, v1, v2] := by cases args; simp_all
  obtain ⟨rfl, rfl⟩ := trodVars_none hV
  have k0 := h0
  have lt0 : ∀ x ∈ p0, x.block < W.heap.size := by obtain ⟨m, hm⟩ := k0; exact DataW.trod_lt m _ _ _ hm
  obtain ⟨cs, rfl, hsz, _⟩ : ∃ cs, v0 = .agg cs ∧ cs.size = Try.prog.cellsOf 26 ∧ Row.okWide Try.prog W .any base 26 cs := by
    have := hval 0 26 v0 rfl rfl
    simpa [Value.okWide, Try.underlying26] using this
  obtain ⟨l⟩ := cs
  obtain ⟨x0, x1, x2, x3, x4, x5, x6, hl, w0, w1, w2, w3, w4, w5, w6⟩ : ∃ x0 x1 x2 x3 x4 x5 x6 : Int, l = [.int .i64 x0, .int .i64 x1, .int .i64 x2, .int .i64 x3, .int .i64 x4, .int .i64 x5, .int .i64 x6] ∧
      (Lit.int .i64 x0).wf = true ∧ (Lit.int .i64 x1).wf = true ∧ (Lit.int .i64 x2).wf = true ∧ (Lit.int .i64 x3).wf = true ∧ (Lit.int .i64 x4).wf = true ∧ (Lit.int .i64 x5).wf = true ∧ (Lit.int .i64 x6).wf = true := by
    obtain ⟨fuel, hf⟩ := h0
    exact open7 (by simpa [Value.cells] using hf)
  subst hl
  obtain ⟨a1, rfl, rfl, rfl, wa1⟩ := open_int Try.underlying3 (hval 1 3 v1 rfl rfl) h1
  obtain ⟨a2, rfl, rfl, rfl, wa2⟩ := open_int Try.underlying2 (hval 2 2 v2 rfl rfl) h2
  clear hA0 hval0
  refine (walk x0 x1 x2 x3 x4 x5 x6 a1 a2 W w0 w1 w2 w3 w4 w5 w6).mono fun e W' ⟨he, bel⟩ => ?_
  subst he
  exact ⟨_, rfl, _, _, _, [], _, [], hW', trodAll_mk1 (shut_bool Try.underlying4 _), (trodAll_cons_mk (Below.trod laidOut (by kernel_rfl) (of_decide_eq_true (by kernel_rfl)) k0 bel lt0) (trodAll_cons_mk (shut_int Try.underlying3 wa1) (trodAll_cons_mk (shut_int Try.underlying2 wa2) trodAll_mk0))), rfl, bel.frame _, fun h => by cases h⟩

theorem over : Rows.fnCountersAddUndoneByNegationRow.holds Try.pinned (OpenSpec.ofChange Rows.fnCountersAddUndoneByNegationSpec) :=
  OpenClaim.holds_of_wide 4 Try.f4 rfl rfl rfl rfl rfl rfl rfl ⟨rfl, rfl, rfl, rfl, rfl⟩ rfl rfl rfl rfl rfl (by kernel_rfl) Try.func4 (by kernel_rfl)
    (of_decide_eq_true (by kernel_rfl)) (by unfold Func.isWrapper; first | (rw [if_pos (by decide +kernel)]; kernel_rfl) | (rw [if_neg (by decide +kernel)]; exact ⟨rfl, rfl⟩))
    (fun os started H enc _ => lifted os started H enc)

theorem proved : Rows.FnCountersAddUndoneByNegationSaid := over
end Go.Proofs.Qxb6613475a.fnCountersAddUndoneByNegation
