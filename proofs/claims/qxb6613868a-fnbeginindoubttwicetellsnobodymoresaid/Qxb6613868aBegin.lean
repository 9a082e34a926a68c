import Derived.Test.Qxb6613868aTell2
namespace Go.Proofs.Qxb6613868a
open Go.RowKit

theorem list_cell {w : World} {b : Nat} {st oc : Int} {p2 v2 td : Value} (h : Tx w b st oc p2 v2 td) :
    Tx ((w.setCell ⟨b, 0, none⟩ (.int .u8 8)).alloc (.cells #[.pointer (some ⟨b, 14, none⟩)] 56)) b 8 oc p2 v2 td ∧ ((w.setCell ⟨b, 0, none⟩ (.int .u8 8)).alloc (.cells #[.pointer (some ⟨b, 14, none⟩)] 56)).cell? ⟨w.heap.size, 0, none⟩ = some (.pointer (some ⟨b, 14, none⟩)) ∧ w.heap.size ≠ b ∧
      w.grownBy ((w.setCell ⟨b, 0, none⟩ (.int .u8 8)).alloc (.cells #[.pointer (some ⟨b, 14, none⟩)] 56)) (some b) := by
  refine ⟨(h.set0 8).grown (World.grownBy_alloc _ _ none) (by simp), ?_, by have := h.lt; omega, grown_trans (grown_set _ _ _ _) (World.grownBy_alloc _ _ _)⟩
  have e : w.heap.size = (w.setCell ⟨b, 0, none⟩ (.int .u8 8)).heap.size := by simp [World.setCell]
  rw [e]
  exact cell_one_new _ _ _ 0 _ rfl

theorem begin28_zero (b : Nat) (st oc : Int) (p2 td : Value) (va : Option Addr) (vc : Nat) (w : World) (hT : Tx w b st oc p2 (.slice va 0 vc) td) :
    Calls Try.prog 28 #[.pointer (some ⟨b, 0, none⟩)] w fun e w' => ∃ g c, e = .returned (.slice (some ⟨g, 0, none⟩) 1 c) ∧ Tx w' b 8 oc p2 (.slice none 0 0) (.slice none 0 0) ∧
      w'.cell? ⟨g, 0, none⟩ = some (.int .u8 11) ∧ w'.cell? ⟨g, 1, none⟩ = some (.int .u32 0) ∧ w'.cell? ⟨g, 2, none⟩ = some (.int .u8 5) ∧ w.grownBy w' (some b) := by
  have HL : Hid _ := list_cell hT
  have c0 := hT.c0
  have f0 := hT.fz 0
  clear hT
  go_enter Try.func28, Try.ntmps28
  go_wp2_with fail
  generalize (w.setCell ⟨b, 0, none⟩ (.int .u8 8)).alloc (.cells #[.pointer (some ⟨b, 14, none⟩)] 56) = W at HL
  refine (tellEvery_zero b w.heap.size oc p2 td va vc W HL.out.1 HL.out.2.1 HL.out.2.2.1).mono ?_
  rintro e w' ⟨g, c, rfl, q⟩
  have HQ : Hid _ := q
  clear q
  go_wp2
  go_ret
  obtain ⟨q0, q1, q2, q3, q4⟩ := HQ.out
  exact ⟨g, c, rfl, q0, q1, q2, q3, grown_trans HL.out.2.2.2 q4⟩

theorem begin_zero (b : Nat) (st oc : Int) (p2 td : Value) (va : Option Addr) (vc : Nat) (w : World) (hT : Tx w b st oc p2 (.slice va 0 vc) td) :
    Calls Try.prog 13 #[.pointer (some ⟨b, 0, none⟩)] w fun e w' => ∃ g c, e = .returned (.slice (some ⟨g, 0, none⟩) 1 c) ∧ Tx w' b 8 oc p2 (.slice none 0 0) (.slice none 0 0) ∧
      w'.cell? ⟨g, 0, none⟩ = some (.int .u8 11) ∧ w'.cell? ⟨g, 1, none⟩ = some (.int .u32 0) ∧ w'.cell? ⟨g, 2, none⟩ = some (.int .u8 5) ∧ w.grownBy w' (some b) := by
  go_enter Try.func13, Try.ntmps13
  go_wp2_with fail
  refine (begin28_zero b st oc p2 td va vc w hT).mono ?_
  rintro e w' ⟨g, c, rfl, q⟩
  have HQ : Hid _ := q
  clear q
  go_wp2
  go_ret
  exact ⟨g, c, rfl, HQ.out⟩

theorem begin28_pos (b : Nat) (st oc : Int) (p2 td : Value) (vb vo vl vc : Nat) (xs : List Int) (w : World) (hT : Tx w b st oc p2 (.slice (some ⟨vb, vo, none⟩) vl vc) td)
    (hpos : 0 < vl) (hle : vl ≤ 65536) (hxs : xs.length = vl) (hvb : vb ≠ b) (hlt : vb < w.heap.size) (hrow : ∀ i, i < vl → w.cell? ⟨vb, vo + i, none⟩ = some (.int .u32 (xs.getD i 0))) :
    Calls Try.prog 28 #[.pointer (some ⟨b, 0, none⟩)] w fun e w' => ∃ r rc g c, e = .returned (.slice (some ⟨r, 0, none⟩) vl rc) ∧ Told w w' b oc p2 vl xs r g c := by
  have HL : Hid _ := list_cell hT
  have c0 := hT.c0
  have f0 := hT.fz 0
  clear hT
  have HR : Hid (∀ i, i < vl → w.cell? ⟨vb, vo + i, none⟩ = some (.int .u32 (xs.getD i 0))) := hrow
  clear hrow
  go_enter Try.func28, Try.ntmps28
  go_wp2_with fail
  generalize (w.setCell ⟨b, 0, none⟩ (.int .u8 8)).alloc (.cells #[.pointer (some ⟨b, 14, none⟩)] 56) = W at HL
  have hrW : ∀ i, i < vl → W.cell? ⟨vb, vo + i, none⟩ = some (.int .u32 (xs.getD i 0)) := fun i hi =>
    (World.cell?_of_block (w := w) (a := ⟨vb, vo + i, none⟩) (HL.out.2.2.2.block vb hlt (by simpa using hvb))).trans (HR.out i hi)
  refine (tellEvery_pos b w.heap.size oc p2 td vb vo vl vc xs W HL.out.1 HL.out.2.1 HL.out.2.2.1 hpos hle hxs hvb hrW).mono ?_
  rintro e w' ⟨r, rc, g, c, rfl, q⟩
  have HQ : Hid (Told W w' b oc p2 vl xs r g c) := q
  clear q hrW
  go_wp2
  go_ret
  obtain ⟨q0, q1, q2, q3, q4, q5, q6⟩ := HQ.out
  exact ⟨r, rc, g, c, rfl, q0, q1, q2, q3, q4, q5, grown_trans HL.out.2.2.2 q6⟩

theorem begin_pos (b : Nat) (st oc : Int) (p2 td : Value) (vb vo vl vc : Nat) (xs : List Int) (w : World) (hT : Tx w b st oc p2 (.slice (some ⟨vb, vo, none⟩) vl vc) td)
    (hpos : 0 < vl) (hle : vl ≤ 65536) (hxs : xs.length = vl) (hvb : vb ≠ b) (hlt : vb < w.heap.size) (hrow : ∀ i, i < vl → w.cell? ⟨vb, vo + i, none⟩ = some (.int .u32 (xs.getD i 0))) :
    Calls Try.prog 13 #[.pointer (some ⟨b, 0, none⟩)] w fun e w' => ∃ r rc g c, e = .returned (.slice (some ⟨r, 0, none⟩) vl rc) ∧ Told w w' b oc p2 vl xs r g c := by
  have HT : Hid (Tx w b st oc p2 (.slice (some ⟨vb, vo, none⟩) vl vc) td) := hT
  have HR : Hid (∀ i, i < vl → w.cell? ⟨vb, vo + i, none⟩ = some (.int .u32 (xs.getD i 0))) := hrow
  clear hT hrow
  go_enter Try.func13, Try.ntmps13
  go_wp2_with fail
  refine (begin28_pos b st oc p2 td vb vo vl vc xs w HT.out hpos hle hxs hvb hlt HR.out).mono ?_
  rintro e w' ⟨r, rc, g, c, rfl, q⟩
  have HQ : Hid (Told w w' b oc p2 vl xs r g c) := q
  clear q
  go_wp2
  go_ret
  exact ⟨r, rc, g, c, rfl, HQ.out⟩
end Go.Proofs.Qxb6613868a
