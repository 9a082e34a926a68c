import Derived.Test.Qxb6613868aRows
import Derived.Test.Qxb6613868aLaw
import Derived.WalkKit
import Derived.ProofKit
import Derived.OpenShut
import Derived.ShutString
import Derived.ChangeOld
import Derived.Below
namespace Go.Proofs.Qxb6613868a.fnBeginInDoubtTwiceTellsNobodyMore
open Go.ChangeShapes Go.WideShapes Go.ChangeAt Go.RowKit
open Go.ChangeMaps (open_string shut_string)
set_option linter.unusedVariables false

theorem own : ownKnob Try.prog.godebug = none := by kernel_rfl
theorem laidOut : laidOutB Try.prog = true := by kernel_rfl

/-- WHAT THE WALK IS TOLD OF A SLICE OF INTEGERS THAT CAME IN: it is nil; or it leads to a row of 'cap' cells, the numbers 'zs' (the first 'len' are its elements, the rest its spare room), each fitting its kind. -/
def IsRow (k : IntKind) (w : World) (a : Option Addr) (len cap : Nat) (zs : List Int) : Prop :=
  (a = none ∧ len = 0 ∧ cap = 0 ∧ zs = []) ∨
  ∃ x, a = some x ∧ len ≤ cap ∧ cap ≤ maxLen ∧ zs.length = cap ∧ (∀ i, i < zs.length → w.cell? (x.add i) = some (.int k (zs.getD i 0))) ∧ ∀ n ∈ zs, (Lit.int k n).wf = true

/-- A row that came in, as the law's roads read it. -/
theorem rd_of {w : World} {a : Option Addr} {len cap : Nat} {zs : List Int} (h : IsRow .u32 w a len cap zs) : Rd w a len (zs.take len) ∧ (a = none → len = 0 ∧ cap = 0) ∧ len ≤ maxLen := by
  rcases h with ⟨rfl, rfl, rfl, rfl⟩ | ⟨x, rfl, hl, hm, hz, hc, _⟩
  · exact ⟨Rd.zero _ _, fun _ => ⟨rfl, rfl⟩, Nat.zero_le _⟩
  · refine ⟨⟨by simp; omega, fun hn => ?_⟩, fun h => absurd h (by simp), by omega⟩
    obtain ⟨b, o, sp⟩ := x
    have h0 := hc 0 (by omega)
    have hs : sp = none := by
      obtain ⟨_, _, _, _, hsp⟩ := World.shape?_of_cell? h0
      unfold Addr.add at hsp
      simpa using hsp
    subst hs
    refine ⟨b, o, rfl, fun i hi => ?_⟩
    have ea : (⟨b, o, none⟩ : Addr).add i = ⟨b, o + i, none⟩ := by
      unfold Addr.add
      split <;> simp_all
    have := hc i (by omega)
    rw [ea] at this
    rw [this]
    simp [List.getD, hi]

set_option maxHeartbeats 400000 in
theorem early (a0 : Option Addr) (l0 c0 : Nat) (a1 : Option Addr) (l1 c1 : Nat) (st oc : Int) (w : World) (m0 : l0 ≤ maxLen) (m1 : l1 ≤ maxLen) (h : 1048576 < l0 + l1) :
    Calls Try.prog 4 #[.slice a0 l0 c0, .slice a1 l1 c1, .int .u8 st, .int .u8 oc] w fun e w' => e = .returned (.bool true) ∧ Below w.heap.size w w' := by
  go_enter Try.func4, Try.ntmps4
  go_wp2_with fail
  refine (bytes_no a0 a1 l0 c0 l1 c1 st oc w m0 m1 h).mono ?_
  rintro e w' ⟨rfl, hw⟩
  have hw := hw.symm
  subst hw
  go_wp2
  go_ret
  exact ⟨rfl, Below.refl _ _⟩
set_option maxHeartbeats 400000 in
theorem outside (a0 : Option Addr) (l0 c0 : Nat) (a1 : Option Addr) (l1 c1 : Nat) (st oc : Int) (w : World) (h : l0 + l1 ≤ 1048576) (ho : 65536 < l0 ∨ (l0 ≤ 65536 ∧ 65536 < l1) ∨ (l0 ≤ 65536 ∧ l1 ≤ 65536 ∧ 9 < st)) :
    Calls Try.prog 4 #[.slice a0 l0 c0, .slice a1 l1 c1, .int .u8 st, .int .u8 oc] w fun e w' => e = .returned (.bool true) ∧ Below w.heap.size w w' := by
  rcases ho with h1 | ⟨h1, h2⟩ | ⟨h1, h2, h3⟩
  all_goals
    go_enter Try.func4, Try.ntmps4
    go_wp2_with fail
    refine (bytes_yes a0 a1 l0 c0 l1 c1 st oc w (by omega) (by omega)).mono ?_
    rintro e w' ⟨rfl, hw⟩
    have hw := hw.symm
    subst hw
    go_wp2
    go_ret
    exact ⟨rfl, Below.refl _ _⟩

/-! ### STEP 1: THE WALK -/
theorem walk (a0 : Option Addr) (len0 cap0 : Nat) (z0 : List Int) (a1 : Option Addr) (len1 cap1 : Nat) (z1 : List Int) (a2 : Int) (a3 : Int) (w : World) (w0 : IsRow .u32 w a0 len0 cap0 z0) (w1 : IsRow .u32 w a1 len1 cap1 z1) (w2 : (Lit.int .u8 a2).wf = true) (w3 : (Lit.int .u8 a3).wf = true) :
    Calls Try.prog 4 #[.slice a0 len0 cap0, .slice a1 len1 cap1, .int .u8 a2, .int .u8 a3] w fun e w' => e = .returned (.bool true) ∧ Below w.heap.size w w' := by
  obtain ⟨r0, n0, m0⟩ := rd_of w0
  obtain ⟨r1, n1, m1⟩ := rd_of w1
  by_cases hs : 1048576 < len0 + len1
  · exact early a0 len0 cap0 a1 len1 cap1 a2 a3 w m0 m1 hs
  by_cases ho : 65536 < len0 ∨ (len0 ≤ 65536 ∧ 65536 < len1) ∨ (len0 ≤ 65536 ∧ len1 ≤ 65536 ∧ 9 < a2)
  · exact outside a0 len0 cap0 a1 len1 cap1 a2 a3 w (by omega) ho
  have b0 : len0 ≤ 65536 := by omega
  have b1 : len1 ≤ 65536 := by omega
  have hst : a2 ≤ 9 := by omega
  by_cases hp : 0 < len0
  · exact law_pos a0 len0 cap0 a1 len1 cap1 a2 a3 _ _ w hp b0 b1 n0 n1 hst r0 r1
  · obtain rfl : len0 = 0 := by omega
    exact law_zero a0 cap0 a1 len1 cap1 a2 a3 _ _ w b1 (fun h => (n0 h).2) n1 hst r0 r1

set_option maxRecDepth 100000 in
theorem lifted (os : Os) (started : os.Started) (H : Type) (enc : TypeId × Value → H) :
    ReturnsInHanded {} Try.checked os 4 .any (Rows.fnBeginInDoubtTwiceTellsNobodyMoreSpec.pre6 enc Try.prog Try.f4 Rows.fnBeginInDoubtTwiceTellsNobodyMoreRow.domain false) (Rows.fnBeginInDoubtTwiceTellsNobodyMoreSpec.post enc Try.prog Try.f4 false true false false) := by
  refine returnsInHanded_of_change (C := Try.checked) own started (by kernel_rfl) Try.func4
    (ChangeSpec.witness6 (enc := enc) (C := Try.checked) false ⟨#[], #[.slice none 0 0, .slice none 0 0, .int .u8 0, .int .u8 0], []⟩ 8 (by kernel_rfl) (by kernel_rfl) (by kernel_rfl) (by kernel_rfl)) ?_
  intro W base args ds gs before hval0 hW hcnd _
  have hval : ∀ (j : Nat) t v, Try.f4.params[j]? = some t → args[j]? = some v → Value.okWide Try.prog W .any base t v := hval0
  have hW' := hW
  obtain ⟨p, q, hA0, hV, rfl, hfz, hnd⟩ := hW
  have hA : DataW.TrodAll enc Try.prog W 0 (fun _ => true) true Try.f4.params.toList args.toList ds p := hA0
  rw [Try.params4] at hA hval
  obtain ⟨v0, vs0, d0, ds0, p0, q0, hargs, rfl, rfl, h0, r0⟩ := trodAll_cons hA
  obtain ⟨v1, vs1, d1, ds1, p1, q1, rfl, rfl, rfl, h1, r1⟩ := trodAll_cons r0
  obtain ⟨v2, vs2, d2, ds2, p2, q2, rfl, rfl, rfl, h2, r2⟩ := trodAll_cons r1
  obtain ⟨v3, vs3, d3, ds3, p3, q3, rfl, rfl, rfl, h3, r3⟩ := trodAll_cons r2
  obtain ⟨rfl, rfl, rfl⟩ := trodAll_nil r3
  obtain rfl : args = #[v0, v1, v2, v3] := by cases args; simp_all
  obtain ⟨rfl, rfl⟩ := trodVars_none hV
  obtain ⟨a0, len0, cap0, rfl⟩ := okWide_slice Try.underlying22 (hval 0 22 v0 rfl rfl)
  have k0 := h0
  have lt0 : ∀ x ∈ p0, x.block < W.heap.size := by obtain ⟨m, hm⟩ := k0; exact DataW.trod_lt m _ _ _ hm
  obtain ⟨z0, w0⟩ : ∃ zs, IsRow .u32 W a0 len0 cap0 zs := by
    obtain ⟨fuel, hf⟩ := h0
    rcases open_ints Try.underlying22 Try.underlying40 (by kernel_rfl) hf with ⟨hcs, _⟩ | ⟨x, l, c, zs, hcs, _, hl, hm, hz, _, hcell, hwz⟩
    · simp [Value.cells] at hcs
      obtain ⟨rfl, rfl, rfl⟩ := hcs
      exact ⟨[], .inl ⟨rfl, rfl, rfl, rfl⟩⟩
    · simp [Value.cells] at hcs
      obtain ⟨rfl, rfl, rfl⟩ := hcs
      exact ⟨zs, .inr ⟨_, rfl, hl, hm, by simpa using hz, hcell, hwz⟩⟩
  obtain ⟨a1, len1, cap1, rfl⟩ := okWide_slice Try.underlying22 (hval 1 22 v1 rfl rfl)
  have k1 := h1
  have lt1 : ∀ x ∈ p1, x.block < W.heap.size := by obtain ⟨m, hm⟩ := k1; exact DataW.trod_lt m _ _ _ hm
  obtain ⟨z1, w1⟩ : ∃ zs, IsRow .u32 W a1 len1 cap1 zs := by
    obtain ⟨fuel, hf⟩ := h1
    rcases open_ints Try.underlying22 Try.underlying40 (by kernel_rfl) hf with ⟨hcs, _⟩ | ⟨x, l, c, zs, hcs, _, hl, hm, hz, _, hcell, hwz⟩
    · simp [Value.cells] at hcs
      obtain ⟨rfl, rfl, rfl⟩ := hcs
      exact ⟨[], .inl ⟨rfl, rfl, rfl, rfl⟩⟩
    · simp [Value.cells] at hcs
      obtain ⟨rfl, rfl, rfl⟩ := hcs
      exact ⟨zs, .inr ⟨_, rfl, hl, hm, by simpa using hz, hcell, hwz⟩⟩
  obtain ⟨a2, rfl, rfl, rfl, w2⟩ := open_int Try.underlying5 (hval 2 5 v2 rfl rfl) h2
  obtain ⟨a3, rfl, rfl, rfl, w3⟩ := open_int Try.underlying5 (hval 3 5 v3 rfl rfl) h3
  clear hA0 hval0
  refine (walk a0 len0 cap0 z0 a1 len1 cap1 z1 a2 a3 W w0 w1 w2 w3).mono fun e W' ⟨he, bel⟩ => ?_
  subst he
  exact ⟨_, rfl, _, _, _, [], _, [], hW', trodAll_mk1 (shut_bool Try.underlying4 _), (trodAll_cons_mk (Below.trod laidOut (by kernel_rfl) (of_decide_eq_true (by kernel_rfl)) k0 bel lt0) (trodAll_cons_mk (Below.trod laidOut (by kernel_rfl) (of_decide_eq_true (by kernel_rfl)) k1 bel lt1) (trodAll_cons_mk (shut_int Try.underlying5 w2) (trodAll_cons_mk (shut_int Try.underlying5 w3) trodAll_mk0)))), rfl, bel.frame _, fun h => by cases h⟩

theorem over : Rows.fnBeginInDoubtTwiceTellsNobodyMoreRow.holds Try.pinned (OpenSpec.ofChange Rows.fnBeginInDoubtTwiceTellsNobodyMoreSpec) :=
  OpenClaim.holds_of_wide 4 Try.f4 rfl rfl rfl rfl rfl rfl rfl ⟨rfl, rfl, rfl, rfl, rfl⟩ rfl rfl rfl rfl rfl (by kernel_rfl) Try.func4 (by kernel_rfl)
    (of_decide_eq_true (by kernel_rfl)) (by unfold Func.isWrapper; first | (rw [if_pos (by decide +kernel)]; kernel_rfl) | (rw [if_neg (by decide +kernel)]; exact ⟨rfl, rfl⟩))
    (fun os started H enc _ => lifted os started H enc)

theorem proved : Rows.FnBeginInDoubtTwiceTellsNobodyMoreSaid := over
end Go.Proofs.Qxb6613868a.fnBeginInDoubtTwiceTellsNobodyMore
