import Derived.Test.Qxb6613868aLoops
import Derived.Deep.RegionLawGrows
import Derived.Lib.SmallJoins
namespace Go.Proofs.Qxb6613868a
open Go.RowKit

/-- Block b holds a Transaction. -/
def Tx (w : World) (b : Nat) (st oc : Int) (p2 v2 td : Value) : Prop := w.heap[b]? = some (.cells (TX st oc p2 v2 td) 43 (0, 0))
section
variable {w w' : World} {b : Nat} {st oc : Int} {p2 v2 td : Value}
theorem Tx.lt (h : Tx w b st oc p2 v2 td) : b < w.heap.size := by
  obtain ⟨hb, _⟩ := Array.getElem?_eq_some_iff.1 h
  exact hb
theorem Tx.c0 (h : Tx w b st oc p2 v2 td) : w.cell? ⟨b, 0, none⟩ = some (.int .u8 st) := by rw [cell_of_row w b 0 _ _ _ h]; rfl
theorem Tx.c2 (h : Tx w b st oc p2 v2 td) : w.cell? ⟨b, 2, none⟩ = some (.int .u8 oc) := by rw [cell_of_row w b 2 _ _ _ h]; rfl
theorem Tx.c6 (h : Tx w b st oc p2 v2 td) : w.cell? ⟨b, 6, none⟩ = some (.int .u8 0) := by rw [cell_of_row w b 6 _ _ _ h]; rfl
theorem Tx.c7 (h : Tx w b st oc p2 v2 td) : w.cell? ⟨b, 7, none⟩ = some (.bool false) := by rw [cell_of_row w b 7 _ _ _ h]; rfl
theorem Tx.c14 (h : Tx w b st oc p2 v2 td) : w.cell? ⟨b, 14, none⟩ = some v2 := by rw [cell_of_row w b 14 _ _ _ h]; rfl
theorem Tx.c15 (h : Tx w b st oc p2 v2 td) : w.cell? ⟨b, 15, none⟩ = some (.slice none 0 0) := by rw [cell_of_row w b 15 _ _ _ h]; rfl
theorem Tx.c16 (h : Tx w b st oc p2 v2 td) : w.cell? ⟨b, 16, none⟩ = some p2 := by rw [cell_of_row w b 16 _ _ _ h]; rfl
theorem Tx.c18 (h : Tx w b st oc p2 v2 td) : w.cell? ⟨b, 18, none⟩ = some td := by rw [cell_of_row w b 18 _ _ _ h]; rfl
theorem Tx.fz (h : Tx w b st oc p2 v2 td) (j : Nat) : w.frozen? ⟨b, j, none⟩ = false := frozen_of_row w b j _ _ h
theorem Tx.set0 (h : Tx w b st oc p2 v2 td) (x : Int) : Tx (w.setCell ⟨b, 0, none⟩ (.int .u8 x)) b x oc p2 v2 td := by
  unfold Tx; rw [heap_setCell_same w b 0 _ _ _ h]; rfl
theorem Tx.set14 (h : Tx w b st oc p2 v2 td) (x : Value) : Tx (w.setCell ⟨b, 14, none⟩ x) b st oc p2 x td := by
  unfold Tx; rw [heap_setCell_same w b 14 _ _ _ h]; rfl
theorem Tx.set18 (h : Tx w b st oc p2 v2 td) (x : Value) : Tx (w.setCell ⟨b, 18, none⟩ x) b st oc p2 v2 x := by
  unfold Tx; rw [heap_setCell_same w b 18 _ _ _ h]; rfl
theorem Tx.grown {r : Option Nat} (h : Tx w b st oc p2 v2 td) (hg : w.grownBy w' r) (hr : some b ≠ r) : Tx w' b st oc p2 v2 td := by
  unfold Tx; rw [hg.block b h.lt hr]; exact h
theorem Tx.below {B : Nat} (h : Tx w b st oc p2 v2 td) (hg : Below B w w') (hb : b < B) : Tx w' b st oc p2 v2 td := by
  unfold Tx; rw [hg.block b hb]; exact h
end
theorem grown_trans {a b c : World} {r : Option Nat} (h : a.grownBy b r) (k : b.grownBy c r) : a.grownBy c r :=
  ⟨k.os.trans h.os, k.tape.trans h.tape, k.output.trans h.output, Nat.le_trans h.size k.size, fun i hi hr => (k.block i (Nat.lt_of_lt_of_le hi h.size) hr).trans (h.block i hi hr)⟩
theorem grown_none {a b : World} (h : a.grownBy b none) (r : Option Nat) : a.grownBy b r := ⟨h.os, h.tape, h.output, h.size, fun i hi _ => h.block i hi (by simp)⟩
theorem grown_set (w : World) (b j : Nat) (u : Value) : w.grownBy (w.setCell ⟨b, j, none⟩ u) (some b) :=
  ⟨rfl, rfl, rfl, by simp [World.setCell], fun i _ hr => heap_setCell_other w ⟨b, j, none⟩ i u (fun e => hr (by simp [e]))⟩
theorem grown_below {w w' : World} (h : Below w.heap.size w w') (r : Option Nat) : w.grownBy w' r := ⟨h.os, h.tape, h.output, h.size, fun i hi _ => h.block i hi⟩
theorem grown_drew (w : World) (r : Option Nat) : w.grownBy w.drew r := ⟨rfl, rfl, rfl, Nat.le_refl _, fun _ _ _ => rfl⟩
theorem grown_over {a b c : World} {r : Option Nat} {q : Nat} (h : a.grownBy b r) (k : b.grownBy c (some q)) (hq : a.heap.size ≤ q) : a.grownBy c r :=
  ⟨k.os.trans h.os, k.tape.trans h.tape, k.output.trans h.output, Nat.le_trans h.size k.size, fun i hi hr => (k.block i (Nat.lt_of_lt_of_le hi h.size) (fun e => by cases e; omega)).trans (h.block i hi hr)⟩
theorem below_grown {B b : Nat} {w w' : World} (h : w.grownBy w' (some b)) (hB : B ≤ b) (hs : B ≤ w.heap.size) : Below B w w' :=
  ⟨h.os, h.tape, h.output, h.size, fun k hk => h.block k (by omega) (fun e => by cases e; omega)⟩


/-- THE REST OF tellEvery BEHIND ITS LOOP, NOBODY TOLD: what the appended answer leaves. -/
theorem answer_cells {w : World} {base g c : Nat} (h : w.ownsRow base 46 3 (.slice (some ⟨g, 0, none⟩) 1 c) 1 [.int .u8 11, .int .u32 0, .int .u8 5]) :
    w.cell? ⟨g, 0, none⟩ = some (.int .u8 11) ∧ w.cell? ⟨g, 1, none⟩ = some (.int .u32 0) ∧ w.cell? ⟨g, 2, none⟩ = some (.int .u8 5) := by
  refine ⟨?_, ?_, ?_⟩
  · rw [h.cellAt 0 (by omega)]; rfl
  · rw [h.cellAt 1 (by omega)]; rfl
  · rw [h.cellAt 2 (by omega)]; rfl

set_option maxHeartbeats 800000 in
theorem tellEvery_zero (b L : Nat) (oc : Int) (p2 td : Value) (va : Option Addr) (vc : Nat) (w : World) (hT : Tx w b 8 oc p2 (.slice va 0 vc) td) (hL : w.cell? ⟨L, 0, none⟩ = some (.pointer (some ⟨b, 14, none⟩))) (hLb : L ≠ b) :
    Calls Try.prog 31 #[.pointer (some ⟨b, 0, none⟩), .int .u8 10, .slice (some ⟨L, 0, none⟩) 1 1] w fun e w' => ∃ g c, e = .returned (.slice (some ⟨g, 0, none⟩) 1 c) ∧ Tx w' b 8 oc p2 (.slice none 0 0) (.slice none 0 0) ∧
      w'.cell? ⟨g, 0, none⟩ = some (.int .u8 11) ∧ w'.cell? ⟨g, 1, none⟩ = some (.int .u32 0) ∧ w'.cell? ⟨g, 2, none⟩ = some (.int .u8 5) ∧ w.grownBy w' (some b) := by
  obtain ⟨i0, hi, hz0, hz1, hz2⟩ := info_parts Try.info46
  have c14 := hT.c14
  have c18 := hT.c18
  have f14 := hT.fz 14
  have f18 := hT.fz 18
  have HW : Hid (Tx (((w.setCell ⟨b, 18, none⟩ (.slice none 0 0)).setCell ⟨b, 18, none⟩ (.slice none 0 0)).setCell ⟨b, 14, none⟩ (.slice none 0 0)).drew b 8 oc p2 (.slice none 0 0) (.slice none 0 0) ∧
      w.grownBy (((w.setCell ⟨b, 18, none⟩ (.slice none 0 0)).setCell ⟨b, 18, none⟩ (.slice none 0 0)).setCell ⟨b, 14, none⟩ (.slice none 0 0)).drew (some b)) :=
    ⟨((hT.set18 _).set18 _).set14 _, grown_trans (grown_trans (grown_trans (grown_set _ _ _ _) (grown_set _ _ _ _)) (grown_set _ _ _ _)) (grown_drew _ _)⟩
  clear hT
  go_enter Try.func31, Try.ntmps31
  go_wp2
  refine wp_loop_rounds 2 ?_
  rw [rounds_succ]
  go_wp2_with fail
  cases va
  all_goals
    go_region
    go_wp2_with fail
    rw [rounds_succ]
    go_wp2_with fail
    generalize (((w.setCell ⟨b, 18, none⟩ (.slice none 0 0)).setCell ⟨b, 18, none⟩ (.slice none 0 0)).setCell ⟨b, 14, none⟩ (.slice none 0 0)).drew = W at HW
    refine (tell_zero none 0 10 W).mono ?_
    rintro e w1 ⟨rfl, hown, hbel⟩
    have T1 : Tx w1 b 8 oc p2 (.slice none 0 0) (.slice none 0 0) := HW.out.1.below hbel HW.out.1.lt
    have d18 := T1.c18
    have d0 := T1.c0
    have G1 : w.grownBy w1 (some b) := grown_trans HW.out.2 (grown_below hbel _)
    have hlt := HW.out.1.lt
    have hws := HW.out.2.size
    have hsz := hbel.size
    have HG : Hid (w.grownBy w1 (some b)) := G1
    have HT1 : Hid (Tx w1 b 8 oc p2 (.slice none 0 0) (.slice none 0 0)) := T1
    clear c14 c18 f14 f18 hL HW G1 T1 hbel
    go_wp2_with fail
    refine (end_one b none 0 w1 d18 d0).mono ?_
    rintro e w2 ⟨rfl, rfl⟩
    go_wp2_with (at_builtin; refine wpList_append_own _ rfl (.tmp 37) (.tmp 39) 30 rfl W.heap.size 46 i0 (.agg #[.int .u8 0, .int .u32 0, .int .u8 0]) 3 12 Try.underlying30 hi hz0 hz1 hz2 rfl (by decide) _ 0 [] rfl (hown.alloc _) ⟨w1.heap.size, 0, none⟩ 1 1 [.int .u8 11, .int .u32 0, .int .u8 5] rfl rfl ?_ ?_ ?_ ?_ ?_ ?_)
    · exact three_new w1 _ _ _
    · exact three_one _ _ _
    · unfold maxLen; omega
    · omega
    · simp; omega
    · intro v3 w3 hown3 hgrow3 _
      obtain ⟨g, c, hv⟩ := Joins.ownsRow_form hown3 (by omega)
      subst hv
      have HO : Hid (w3.ownsRow W.heap.size 46 3 (.slice (some ⟨g, 0, none⟩) 1 c) 1 [.int .u8 11, .int .u32 0, .int .u8 5]) := hown3
      have HR : Hid ((w1.alloc (.cells #[.int .u8 11, .int .u32 0, .int .u8 5] 46)).grownBy w3 (some W.heap.size)) := hgrow3
      clear hown3 hgrow3 hown
      go_wp2
      go_ret
      obtain ⟨q0, q1, q2⟩ := answer_cells HO.out
      refine ⟨g, c, rfl, ?_, q0, q1, q2, ?_⟩
      · exact (HT1.out.grown (World.grownBy_alloc _ _ none) (by simp)).grown HR.out (fun e => by cases e; omega)
      · exact grown_over (grown_trans HG.out (World.grownBy_alloc _ _ _)) HR.out hws
end Go.Proofs.Qxb6613868a
