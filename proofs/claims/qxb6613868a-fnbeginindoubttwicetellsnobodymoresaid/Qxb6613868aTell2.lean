import Derived.Test.Qxb6613868aTell
namespace Go.Proofs.Qxb6613868a
open Go.RowKit

/-- The cells of a row of numbers, behind stores into another block. -/
theorem row_cells {w : World} {vb vo n : Nat} {xs : List Int} (hxs : xs.length = n) (h : ∀ i, i < n → w.cell? ⟨vb, vo + i, none⟩ = some (.int .u32 (xs.getD i 0))) {w' : World} (hw : w'.heap[vb]? = w.heap[vb]?) :
    ∀ (j : Nat) (u : Value), (xs.map (Value.int .u32))[j]? = some u → w'.cell? ((⟨vb, vo, none⟩ : Addr).add j) = some u := by
  intro j u hj
  rw [List.getElem?_map, Option.map_eq_some_iff] at hj
  obtain ⟨x, hx, rfl⟩ := hj
  obtain ⟨hl, rfl⟩ := List.getElem?_eq_some_iff.1 hx
  have e : w'.cell? ⟨vb, vo + j, none⟩ = w.cell? ⟨vb, vo + j, none⟩ := World.cell?_of_block (w := w) hw
  have ea : (⟨vb, vo, none⟩ : Addr).add j = ⟨vb, vo + j, none⟩ := by
    unfold Addr.add
    split <;> simp_all
  rw [ea, e, h j (by omega)]
  simp [List.getD, List.getElem?_eq_getElem hl]
theorem ints_one (xs : List Int) : ∀ u ∈ xs.map (Value.int .u32), u.oneCell' = true := by
  intro u hu
  simp at hu
  obtain ⟨x, _, rfl⟩ := hu
  rfl
/-- What the appended row holds. -/
theorem own_cells {w : World} {base g c n : Nat} {xs : List Int} (hxs : xs.length = n) (h : w.ownsRow base 41 1 (.slice (some ⟨g, 0, none⟩) n c) n (xs.map (Value.int .u32))) :
    ∀ i, i < n → w.cell? ⟨g, 0 + i, none⟩ = some (.int .u32 (xs.getD i 0)) := by
  intro i hi
  rw [Nat.zero_add, h.cellAt i (by omega), List.getElem?_map]
  simp [List.getD, List.getElem?_eq_getElem (show i < xs.length by omega)]


theorem flat_cells (kd : Int) (xs : List Int) : ∀ i, i < xs.length → (xs.flatMap fun x => [Value.int .u8 kd, .int .u32 x, .int .u8 0])[i * 3]? = some (.int .u8 kd) ∧ (xs.flatMap fun x => [Value.int .u8 kd, .int .u32 x, .int .u8 0])[i * 3 + 1]? = some (.int .u32 (xs.getD i 0)) ∧ (xs.flatMap fun x => [Value.int .u8 kd, .int .u32 x, .int .u8 0])[i * 3 + 2]? = some (.int .u8 0) := by
  induction xs with
  | nil => intro i hi; simp at hi
  | cons y ys ih =>
    intro i hi
    cases i with
    | zero => simp
    | succ i =>
      have := ih i (by simpa using hi)
      rw [show (i + 1) * 3 = i * 3 + 3 from by omega]
      simpa using this
theorem acts_cells {w : World} {base r c n : Nat} {kd : Int} {xs : List Int} (hxs : xs.length = n) (h : w.ownsRow base 46 3 (.slice (some ⟨r, 0, none⟩) n c) n (acts kd xs n)) :
    (∀ i, i < n → w.cell? ⟨r, i * 3, none⟩ = some (.int .u8 kd)) ∧ (∀ i, i < n → w.cell? ⟨r, i * 3 + 1, none⟩ = some (.int .u32 (xs.getD i 0))) ∧ (∀ i, i < n → w.cell? ⟨r, i * 3 + 2, none⟩ = some (.int .u8 0)) := by
  have e : acts kd xs n = xs.flatMap fun x => [Value.int .u8 kd, .int .u32 x, .int .u8 0] := by
    unfold acts; rw [List.take_of_length_le (by omega)]
  rw [e] at h
  refine ⟨fun i hi => ?_, fun i hi => ?_, fun i hi => ?_⟩
  · rw [h.cellAt (i * 3) (by omega)]; exact (flat_cells kd xs i (by omega)).1
  · rw [h.cellAt (i * 3 + 1) (by omega)]; exact (flat_cells kd xs i (by omega)).2.1
  · rw [h.cellAt (i * 3 + 2) (by omega)]; exact (flat_cells kd xs i (by omega)).2.2

/-- WHAT tellEvery LEAVES WHERE SOMEBODY IS TOLD: the list of those told, an action for each. -/
def Told (w w' : World) (b : Nat) (oc : Int) (p2 : Value) (vl : Nat) (xs : List Int) (r g c : Nat) : Prop :=
  Tx w' b 8 oc p2 (.slice none 0 0) (.slice (some ⟨g, 0, none⟩) vl c) ∧ g ≠ b ∧ (∀ i, i < vl → w'.cell? ⟨g, 0 + i, none⟩ = some (.int .u32 (xs.getD i 0))) ∧
    (∀ i, i < vl → w'.cell? ⟨r, i * 3, none⟩ = some (.int .u8 10)) ∧ (∀ i, i < vl → w'.cell? ⟨r, i * 3 + 1, none⟩ = some (.int .u32 (xs.getD i 0))) ∧ (∀ i, i < vl → w'.cell? ⟨r, i * 3 + 2, none⟩ = some (.int .u8 0)) ∧ w.grownBy w' (some b)

/-- ALL THAT THE WALK WANTS BEHIND THE FIRST append, in the world with the two stores. -/
theorem after_append {w w1 w2 : World} {b vl g c : Nat} {oc : Int} {p2 v2 : Value} {xs : List Int} (hxs : xs.length = vl) (hT1 : Tx w1 b 8 oc p2 v2 (.slice none 0 0)) (hG1 : w.grownBy w1 (some b))
    (hown : w2.ownsRow w1.heap.size 41 1 (.slice (some ⟨g, 0, none⟩) vl c) vl (xs.map (Value.int .u32))) (hgrow : w1.grownBy w2 none) {W : World}
    (hW : W = (w2.setCell ⟨b, 18, none⟩ (.slice (some ⟨g, 0, none⟩) vl c)).setCell ⟨b, 14, none⟩ (.slice none 0 0)) :
    Tx W b 8 oc p2 (.slice none 0 0) (.slice (some ⟨g, 0, none⟩) vl c) ∧ g ≠ b ∧ g < W.heap.size ∧ (∀ i, i < vl → W.cell? ⟨g, 0 + i, none⟩ = some (.int .u32 (xs.getD i 0))) ∧ w.grownBy W (some b) := by
  have hlt := hown.lt g rfl
  have hb := hT1.lt
  have hne : g ≠ b := by omega
  have T2 : Tx w2 b 8 oc p2 v2 (.slice none 0 0) := hT1.grown hgrow (by simp)
  have G2 : w2.grownBy W (some b) := by subst hW; exact grown_trans (grown_set _ _ _ _) (grown_set _ _ _ _)
  refine ⟨by subst hW; exact (T2.set18 _).set14 _, hne, by have := G2.size; omega, ?_, grown_trans (grown_trans hG1 (grown_none hgrow _)) G2⟩
  intro i hi
  have e := G2.block g hlt.2 (by simpa using hne)
  rw [World.cell?_of_block (w := w2) (a := ⟨g, 0 + i, none⟩) e]
  exact own_cells hxs hown i hi
/-- AND BEHIND tell. -/
theorem after_tell {w W w5 : World} {b vl g c : Nat} {oc : Int} {p2 : Value} {xs : List Int} (hxs : xs.length = vl)
    (h : Tx W b 8 oc p2 (.slice none 0 0) (.slice (some ⟨g, 0, none⟩) vl c) ∧ g ≠ b ∧ g < W.heap.size ∧ (∀ i, i < vl → W.cell? ⟨g, 0 + i, none⟩ = some (.int .u32 (xs.getD i 0))) ∧ w.grownBy W (some b))
    (hown : w5.ownsRow W.heap.size 46 3 (.slice (some ⟨W.heap.size, 0, none⟩) vl vl) vl (acts 10 xs vl)) (hbel : Below W.heap.size W w5) : Told w w5 b oc p2 vl xs W.heap.size g c := by
  obtain ⟨hT, hne, hg, hc, hG⟩ := h
  obtain ⟨q0, q1, q2⟩ := acts_cells hxs hown
  exact ⟨hT.below hbel hT.lt, hne, fun i hi => (hbel.cell (p := ⟨g, 0 + i, none⟩) hg).trans (hc i hi), q0, q1, q2, grown_trans hG (grown_below hbel _)⟩

set_option maxHeartbeats 800000 in
theorem tellEvery_pos (b L : Nat) (oc : Int) (p2 td : Value) (vb vo vl vc : Nat) (xs : List Int) (w : World) (hT : Tx w b 8 oc p2 (.slice (some ⟨vb, vo, none⟩) vl vc) td) (hL : w.cell? ⟨L, 0, none⟩ = some (.pointer (some ⟨b, 14, none⟩))) (_hLb : L ≠ b)
    (hpos : 0 < vl) (hle : vl ≤ 65536) (hxs : xs.length = vl) (hvb : vb ≠ b) (hrow : ∀ i, i < vl → w.cell? ⟨vb, vo + i, none⟩ = some (.int .u32 (xs.getD i 0))) :
    Calls Try.prog 31 #[.pointer (some ⟨b, 0, none⟩), .int .u8 10, .slice (some ⟨L, 0, none⟩) 1 1] w fun e w' => ∃ r rc g c, e = .returned (.slice (some ⟨r, 0, none⟩) vl rc) ∧ Told w w' b oc p2 vl xs r g c := by
  obtain ⟨i0, hi, hz0, hz1, hz2⟩ := info_parts Try.info46
  obtain ⟨i1, hi1, hy0, hy1, hy2⟩ := info_parts Try.info41
  have c14 := hT.c14
  have c18 := hT.c18
  have f14 := hT.fz 14
  have f18 := hT.fz 18
  have T1 : Tx (w.setCell ⟨b, 18, none⟩ (.slice none 0 0)).drew b 8 oc p2 (.slice (some ⟨vb, vo, none⟩) vl vc) (.slice none 0 0) := hT.set18 _
  have HT1 : Hid (Tx (w.setCell ⟨b, 18, none⟩ (.slice none 0 0)).drew b 8 oc p2 (.slice (some ⟨vb, vo, none⟩) vl vc) (.slice none 0 0)) := T1
  have HG1 : Hid (w.grownBy (w.setCell ⟨b, 18, none⟩ (.slice none 0 0)).drew (some b)) := grown_trans (grown_set _ _ _ _) (grown_drew _ _)
  have HC : Hid (∀ (j : Nat) (u : Value), (xs.map (Value.int .u32))[j]? = some u → (w.setCell ⟨b, 18, none⟩ (.slice none 0 0)).drew.cell? ((⟨vb, vo, none⟩ : Addr).add j) = some u) :=
    row_cells hxs hrow (heap_setCell_other w ⟨b, 18, none⟩ vb _ hvb)
  have H1 : Hid (∀ u ∈ xs.map (Value.int .u32), u.oneCell' = true) := ints_one xs
  have hml : 0 + vl ≤ maxLen := by unfold maxLen; omega
  clear hT T1 hrow
  go_enter Try.func31, Try.ntmps31
  go_wp2
  refine wp_loop_rounds 2 ?_
  rw [rounds_succ]
  go_wp2_with fail
  go_region_law (refine step_append_grows rfl (.tmp 22) (.tmp 25) 28 rfl 41 i1 (.int .u32 0) 1 4 Try.underlying28 hi1 hy0 hy1 hy2 rfl (by decide) none 0 0 [] (by simp [Act.eval]) (fun _ => ⟨rfl, rfl⟩) rfl (fun _ e => by cases e) ⟨vb, vo, none⟩ vl vc (xs.map (Value.int .u32)) (by simp [Act.eval]) (by simp [hxs]) HC.out H1.out (by omega) hml (by omega) ?_; intro v2 w2 hown hgrow; rw [Nat.zero_add, List.nil_append] at hown; obtain ⟨g, c, hv⟩ := Joins.ownsRow_form hown (by omega); subst hv; have T2 := HT1.out.grown hgrow (by simp); have e18 := T2.c18; have e14 := T2.c14; have g18 := T2.fz 18; have g14 := T2.fz 14; have HA := after_append hxs HT1.out HG1.out hown hgrow rfl; have HA' : Hid _ := HA; clear T2 hown hgrow HA)
  all_goals
    clear HT1 HG1 HC H1 c14 c18 f14 f18 hL
    go_wp2_with fail
    rw [rounds_succ]
    go_wp2_with fail
    generalize (w2.setCell ⟨b, 18, none⟩ (.slice (some ⟨g, 0, none⟩) vl c)).setCell ⟨b, 14, none⟩ (.slice none 0 0) = W at HA'
    refine (tell_pos g 0 vl c 10 xs W hle hxs HA'.out.2.2.1 HA'.out.2.2.2.1).mono ?_
    rintro e w5 ⟨rfl, hown5, hbel5⟩
    have R := after_tell hxs HA'.out hown5 hbel5
    have d18 := R.1.c18
    have HR : Hid (Told w w5 b oc p2 vl xs W.heap.size g c) := R
    clear R HA' e18 e14 g18 g14 hbel5
    go_wp2_with fail
    refine (end_none b _ vl c w5 hpos d18).mono ?_
    rintro e w6 ⟨rfl, hw6⟩
    subst hw6
    go_wp2_with (at_builtin; refine wpList_append_own_none rfl (.tmp 37) (.tmp 39) 30 rfl W.heap.size 46 i0 3 Try.underlying30 hi _ vl _ rfl hown5 rfl ?_)
    go_ret
    exact ⟨_, _, g, c, rfl, HR.out⟩
end Go.Proofs.Qxb6613868a
