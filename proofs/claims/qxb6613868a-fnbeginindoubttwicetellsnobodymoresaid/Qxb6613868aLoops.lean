import Derived.Test.Qxb6613868aSmall
import Derived.Laws.AppendOwnNone
namespace Go.Proofs.Qxb6613868a
open Go.RowKit
theorem Try.info41 : (Try.prog.info? 41).map (fun i => (i.zero, i.size, i.bytes)) = some (some (.int .u32 0), 1, 4) := by kernel_rfl
theorem Try.info46 : (Try.prog.info? 46).map (fun i => (i.zero, i.size, i.bytes)) = some (some (.agg #[.int .u8 0, .int .u32 0, .int .u8 0]), 3, 12) := by kernel_rfl

def fill (xs : List Int) (n k : Nat) : List Value := ((xs.take k) ++ List.replicate (n - k) 0).map (Value.int .u32)
theorem fill_zero (xs : List Int) (n : Nat) : fill xs n 0 = List.replicate n (Value.int .u32 0) := by simp [fill]
theorem fill_all (xs : List Int) (n : Nat) (h : xs.length = n) : fill xs n n = xs.map (Value.int .u32) := by
  subst h; simp [fill]
theorem fill_length (xs : List Int) (n k : Nat) (h : xs.length = n) (hk : k ≤ n) : (fill xs n k).length = n := by simp [fill]; omega
theorem fill_set (xs : List Int) (n k : Nat) (h : xs.length = n) (hk : k < n) : (fill xs n k).set k (.int .u32 (xs.getD k 0)) = fill xs n (k + 1) := by
  unfold fill
  have e : List.replicate (n - k) (0 : Int) = 0 :: List.replicate (n - (k + 1)) 0 := by
    rw [show n - k = (n - (k + 1)) + 1 from by omega, List.replicate_succ]
  have hl : (xs.take k).length = k := by simp; omega
  rw [← List.map_set, e, List.set_append_right _ _ (by omega)]
  rw [hl, Nat.sub_self, List.set_cons_zero]
  have hg : xs.getD k 0 = xs[k]'(by omega) := by simp [List.getD, List.getElem?_eq_getElem (show k < xs.length by omega)]
  rw [List.take_succ_eq_append_getElem (by omega), hg, List.append_assoc, List.singleton_append]

theorem toEnl_nil (w : World) : Calls Try.prog 7 #[.slice none 0 0] w fun e w' => e = .returned (.slice none 0 0) ∧ w' = w := by
  have hn := fun w n c => Lib.run_eql_slice_nil (P := Try.prog) w 22 40 none n c 0 0 Try.underlying22
  go_enter Try.func7, Try.ntmps7
  go_wp2
  go_ret
  exact ⟨rfl, rfl⟩

set_option maxHeartbeats 800000 in
theorem toEnl_pos (b o n c : Nat) (xs : List Int) (w : World) (hb : n ≤ 65536) (hxs : xs.length = n) (hlt : b < w.heap.size)
    (h : ∀ i, i < n → w.cell? ⟨b, o + i, none⟩ = some (.int .u32 (xs.getD i 0))) :
    Calls Try.prog 7 #[.slice (some ⟨b, o, none⟩) n c] w fun e w' => e = .returned (.slice (some ⟨w.heap.size, 0, none⟩) n n) ∧ w'.ownsRow w.heap.size 41 1 (.slice (some ⟨w.heap.size, 0, none⟩) n n) n (xs.map (Value.int .u32)) ∧ Below w.heap.size w w' := by
  have hn := fun w n c => Lib.run_eql_slice_nil (P := Try.prog) w 22 40 (some ⟨b, o, none⟩) n c 0 0 Try.underlying22
  obtain ⟨i0, hi, hz0, hz1, hz2⟩ := info_parts Try.info41
  have hml : n ≤ maxLen := by unfold maxLen; omega
  go_enter Try.func7, Try.ntmps7
  go_wp2_with (at_make; refine wpList_make_full _ rfl (.tmp 8) (.tmp 8) 28 rfl w.heap.size 41 i0 (.int .u32 0) 1 Try.underlying28 hi hz0 hz1 .i64 .i64 _ _ n rfl rfl rfl rfl (by rw [hz2]; omega) hml (Nat.le_refl _) ?_; intro w1 hown hgrow)
  have hbel : Below w.heap.size w w1 := (Below.refl _ _).grown hgrow (Nat.le_refl _) (fun k e => by cases e)
  have hown0 : w1.ownsRow w.heap.size 41 1 (.slice (some ⟨w.heap.size, 0, none⟩) n n) n (fill xs n 0) := by
    rw [fill_zero]
    simpa [toList_madeCells_one, Value.cells] using hown
  clear hown hgrow
  go_loopw [4] (fun i wr => ∃ k : Nat, k ≤ n ∧ i = .int .i64 k ∧ wr.ownsRow w.heap.size 41 1 (.slice (some ⟨w.heap.size, 0, none⟩) n n) n (fill xs n k) ∧ Below w.heap.size w wr) (fun i _ => n - (intOf i).toNat)
  case atStart => exact ⟨0, Nat.zero_le _, rfl, hown0, hbel⟩
  case round =>
    obtain ⟨k, hk, rfl, hownr, hbr⟩ := hrel
    by_cases hkn : k < n
    · have h1 : wr.cell? ⟨b, o + k, none⟩ = some (.int .u32 (xs.getD k 0)) := (hbr.cell (p := ⟨b, o + k, none⟩) hlt).trans (h k hkn)
      have hf := hownr.frozenAt k
      obtain ⟨u, hu⟩ : ∃ u, wr.cell? ⟨w.heap.size, k, none⟩ = some u := by
        rw [hownr.cellAt k (by omega)]
        exact ⟨_, List.getElem?_eq_getElem (by rw [fill_length xs n k hxs hk]; exact hkn)⟩
      have R := hownr.stored k (.int .u32 (xs.getD k 0))
      rw [fill_set xs n k hxs hkn] at R
      have HR : Hid _ := R
      have HB : Hid _ := hbr
      clear R hbr hownr h hown0 hbel
      generalize hx : xs.getD k 0 = x at h1 HR
      clear hx
      go_wp2
      go_roundw
      case rel => exact ⟨k + 1, by omega, by go_num, HR.out.1, HB.out.grown HR.out.2 HB.out.size (fun j e => by cases e; exact Nat.le_refl _)⟩
      case measure => simp [intOf]; omega
    · obtain rfl : k = n := by omega
      have HO : Hid _ := hownr
      have HB : Hid _ := hbr
      clear hownr hbr hown0 hbel h
      go_wp2
      go_ret
      exact ⟨rfl, by rw [← fill_all xs k hxs]; exact HO.out, HB.out⟩

theorem toEnl_zero (x : Addr) (c : Nat) (w : World) :
    Calls Try.prog 7 #[.slice (some x) 0 c] w fun e w' => e = .returned (.slice (some ⟨w.heap.size, 0, none⟩) 0 0) ∧ Below w.heap.size w w' := by
  have hn := fun w n c => Lib.run_eql_slice_nil (P := Try.prog) w 22 40 (some x) n c 0 0 Try.underlying22
  obtain ⟨i0, hi, hz0, hz1, hz2⟩ := info_parts Try.info41
  have hml : 0 ≤ maxLen := Nat.zero_le _
  go_enter Try.func7, Try.ntmps7
  go_wp2_with (at_make; refine wpList_make_full _ rfl (.tmp 8) (.tmp 8) 28 rfl w.heap.size 41 i0 (.int .u32 0) 1 Try.underlying28 hi hz0 hz1 .i64 .i64 _ _ 0 rfl rfl rfl rfl (by rw [hz2]; omega) hml (Nat.le_refl _) ?_; intro w1 hown hgrow)
  have hbel : Below w.heap.size w w1 := (Below.refl _ _).grown hgrow (Nat.le_refl _) (fun k e => by cases e)
  have HB : Hid _ := hbel
  clear hown hgrow hbel
  refine wp_loop_rounds 1 ?_
  rw [rounds_succ]
  go_wp2
  go_ret
  exact ⟨rfl, HB.out⟩

def acts (kd : Int) (xs : List Int) (k : Nat) : List Value := (xs.take k).flatMap fun x => [.int .u8 kd, .int .u32 x, .int .u8 0]
theorem acts_succ (kd : Int) (xs : List Int) (k : Nat) (hk : k < xs.length) : acts kd xs (k + 1) = acts kd xs k ++ [.int .u8 kd, .int .u32 (xs.getD k 0), .int .u8 0] := by
  have hg : xs.getD k 0 = xs[k] := by simp [List.getD, List.getElem?_eq_getElem hk]
  unfold acts
  rw [List.take_succ_eq_append_getElem hk, hg, List.flatMap_append]
  simp

theorem three_new (w : World) (x y z : Value) : ∀ (j : Nat) (u : Value), [x, y, z][j]? = some u → (w.alloc (.cells #[x, y, z] 46)).cell? (({ block := w.heap.size, off := 0 } : Addr).add j) = some u := by
  intro j u hj
  match j, hj with
  | 0, hj => simp at hj; subst hj; simp [Addr.add]
  | 1, hj => simp at hj; subst hj; simp [Addr.add]
  | 2, hj => simp at hj; subst hj; simp [Addr.add]
theorem three_one (x y z : Int) : ∀ u ∈ [Value.int .u8 x, Value.int .u32 y, Value.int .u8 z], u.oneCell' = true := by
  intro u hu
  simp at hu
  rcases hu with rfl | rfl | rfl <;> rfl

set_option maxHeartbeats 800000 in
theorem tell_pos (b o n c : Nat) (kd : Int) (xs : List Int) (w : World) (hb : n ≤ 65536) (hxs : xs.length = n) (hlt : b < w.heap.size)
    (h : ∀ i, i < n → w.cell? ⟨b, o + i, none⟩ = some (.int .u32 (xs.getD i 0))) :
    Calls Try.prog 30 #[.int .u8 kd, .slice (some ⟨b, o, none⟩) n c] w fun e w' => e = .returned (.slice (some ⟨w.heap.size, 0, none⟩) n n) ∧ w'.ownsRow w.heap.size 46 3 (.slice (some ⟨w.heap.size, 0, none⟩) n n) n (acts kd xs n) ∧ Below w.heap.size w w' := by
  obtain ⟨i0, hi, hz0, hz1, hz2⟩ := info_parts Try.info46
  have hml : n ≤ maxLen := by unfold maxLen; omega
  go_enter Try.func30, Try.ntmps30
  go_wp2_with (at_make; refine wpList_make_own _ rfl (.const (.int .i64 0)) (.tmp 9) 30 rfl w.heap.size 46 i0 (.agg #[.int .u8 0, .int .u32 0, .int .u8 0]) 3 Try.underlying30 hi hz0 hz1 .i64 .i64 _ n rfl rfl rfl (by rw [hz2]; omega) hml (Nat.le_refl _) ?_; intro w1 hown hgrow)
  have hbel : Below w.heap.size w w1 := (Below.refl _ _).grown hgrow (Nat.le_refl _) (fun k e => by cases e)
  clear hgrow
  go_loopw [5, 13] (fun v i wr => ∃ k : Nat, k ≤ n ∧ v = .slice (some ⟨w.heap.size, 0, none⟩) k n ∧ i = .int .i64 k ∧ wr.ownsRow w.heap.size 46 3 (.slice (some ⟨w.heap.size, 0, none⟩) k n) k (acts kd xs k) ∧ Below w.heap.size w wr) (fun _ i _ => n - (intOf i).toNat)
  case atStart => exact ⟨0, Nat.zero_le _, rfl, rfl, hown, hbel⟩
  case round =>
    obtain ⟨k, hk, rfl, rfl, hownr, hbr⟩ := hrel
    clear hown hbel
    by_cases hkn : k < n
    · have h1 : wr.cell? ⟨b, o + k, none⟩ = some (.int .u32 (xs.getD k 0)) := (hbr.cell (p := ⟨b, o + k, none⟩) hlt).trans (h k hkn)
      have HA : Hid (acts kd xs (k + 1) = acts kd xs k ++ [.int .u8 kd, .int .u32 (xs.getD k 0), .int .u8 0]) := acts_succ kd xs k (by omega)
      clear h
      generalize hx : xs.getD k 0 = x at h1 HA
      clear hx
      have hsz := hbr.size
      go_wp2_with (at_builtin; refine wpList_append_fits _ rfl (.tmp 17) (.tmp 21) 30 rfl w.heap.size 46 i0 3 Try.underlying30 hi hz1 w.heap.size k n (acts kd xs k) rfl (hownr.alloc _) ⟨wr.heap.size, 0, none⟩ 1 1 [.int .u8 kd, .int .u32 x, .int .u8 0] rfl rfl ?_ ?_ (by omega) ?_)
      · exact three_new wr _ _ _
      · exact three_one _ _ _
      · intro w2 hown2 hgrow2
        have hb2 : Below w.heap.size w w2 := (hbr.alloc hsz _).grown hgrow2 (by simp; omega) (fun j e => by cases e; exact Nat.le_refl _)
        rw [← HA.out] at hown2
        have HO : Hid _ := hown2
        have HB : Hid _ := hb2
        clear hgrow2 hown2 hownr hbr hb2 h1
        go_wp2
        go_roundw
        case rel => exact ⟨k + 1, by omega, rfl, by go_num, HO.out, HB.out⟩
        case measure => simp [intOf]; omega
    · obtain rfl : k = n := by omega
      have HO : Hid _ := hownr
      have HB : Hid _ := hbr
      clear hownr hbr h
      go_wp2
      go_ret
      exact ⟨rfl, HO.out, HB.out⟩

theorem tell_zero (a : Option Addr) (c : Nat) (kd : Int) (w : World) :
    Calls Try.prog 30 #[.int .u8 kd, .slice a 0 c] w fun e w' => e = .returned (.slice (some ⟨w.heap.size, 0, none⟩) 0 0) ∧ w'.ownsRow w.heap.size 46 3 (.slice (some ⟨w.heap.size, 0, none⟩) 0 0) 0 [] ∧ Below w.heap.size w w' := by
  obtain ⟨i0, hi, hz0, hz1, hz2⟩ := info_parts Try.info46
  have hml : 0 ≤ maxLen := Nat.zero_le _
  go_enter Try.func30, Try.ntmps30
  go_wp2_with (at_make; refine wpList_make_own _ rfl (.const (.int .i64 0)) (.tmp 9) 30 rfl w.heap.size 46 i0 (.agg #[.int .u8 0, .int .u32 0, .int .u8 0]) 3 Try.underlying30 hi hz0 hz1 .i64 .i64 _ 0 rfl rfl rfl (by rw [hz2]; omega) hml (Nat.le_refl _) ?_; intro w1 hown hgrow)
  have hbel : Below w.heap.size w w1 := (Below.refl _ _).grown hgrow (Nat.le_refl _) (fun k e => by cases e)
  have HO : Hid (w1.ownsRow w.heap.size 46 3 (.slice (some ⟨w.heap.size, 0, none⟩) 0 0) 0 []) := hown
  have HB : Hid (Below w.heap.size w w1) := hbel
  clear hown hgrow hbel
  refine wp_loop_rounds 1 ?_
  rw [rounds_succ]
  go_wp2
  go_ret
  exact ⟨rfl, HO.out, HB.out⟩
set_option maxHeartbeats 400000 in
theorem sameEnl_pos (b o c b' o' c' n : Nat) (xs : List Int) (w : World) (hb : n ≤ 65536)
    (h : ∀ i, i < n → w.cell? ⟨b, o + i, none⟩ = some (.int .u32 (xs.getD i 0))) (h' : ∀ i, i < n → w.cell? ⟨b', o' + i, none⟩ = some (.int .u32 (xs.getD i 0))) :
    Calls Try.prog 27 #[.slice (some ⟨b, o, none⟩) n c, .slice (some ⟨b', o', none⟩) n c'] w fun e w' => e = .returned (.bool true) ∧ ∃ q, w' = w.drewN q := by
  go_enter Try.func27, Try.ntmps27
  go_wp2
  go_loopw [5] (fun i wr => ∃ k : Nat, k ≤ n ∧ i = .int .i64 k ∧ ∃ q, wr = w.drewN q) (fun i _ => n - (intOf i).toNat)
  case atStart => exact ⟨0, Nat.zero_le _, rfl, 0, rfl⟩
  case round =>
    obtain ⟨k, hk, rfl, q, rfl⟩ := hrel
    by_cases hlt : k < n
    · have h1 := h k hlt
      have h2 := h' k hlt
      generalize xs.getD k 0 = x at h1 h2
      clear h h'
      go_wp2
      go_quiet (fail)
      go_wp2
      go_roundw
      case rel => exact ⟨k + 1, by omega, by go_num, _, rfl⟩
      case measure => simp [intOf]; omega
    · clear h h'
      go_wp2
      go_ret
      exact ⟨rfl, _, rfl⟩

theorem sameEnl_zero (a a' : Option Addr) (c c' : Nat) (w : World) :
    Calls Try.prog 27 #[.slice a 0 c, .slice a' 0 c'] w fun e w' => e = .returned (.bool true) ∧ ∃ q, w' = w.drewN q := by
  go_enter Try.func27, Try.ntmps27
  go_wp2
  refine wp_loop_rounds 1 ?_
  rw [rounds_succ]
  go_wp2
  go_ret
  exact ⟨rfl, 0, rfl⟩

set_option maxHeartbeats 800000 in
theorem toldEach_pos (g c b' o' c' n : Nat) (kd : Int) (xs : List Int) (w : World) (hb : n ≤ 65536)
    (h0 : ∀ i, i < n → w.cell? ⟨g, i * 3, none⟩ = some (.int .u8 kd)) (h1 : ∀ i, i < n → w.cell? ⟨g, i * 3 + 1, none⟩ = some (.int .u32 (xs.getD i 0))) (h2 : ∀ i, i < n → w.cell? ⟨g, i * 3 + 2, none⟩ = some (.int .u8 0))
    (h' : ∀ i, i < n → w.cell? ⟨b', o' + i, none⟩ = some (.int .u32 (xs.getD i 0))) :
    Calls Try.prog 15 #[.slice (some ⟨g, 0, none⟩) n c, .int .u8 kd, .slice (some ⟨b', o', none⟩) n c'] w fun e w' => e = .returned (.bool true) ∧ ∃ q, w' = w.drewN q := by
  go_enter Try.func15, Try.ntmps15
  go_wp2
  go_loopw [7] (fun i wr => ∃ k : Nat, k ≤ n ∧ i = .int .i64 k ∧ ∃ q, wr = w.drewN q) (fun i _ => n - (intOf i).toNat)
  case atStart => exact ⟨0, Nat.zero_le _, rfl, 0, rfl⟩
  case round =>
    obtain ⟨k, hk, rfl, q, rfl⟩ := hrel
    by_cases hlt : k < n
    · have e0 := h0 k hlt
      have e1 := h1 k hlt
      have e2 := h2 k hlt
      have e3 := h' k hlt
      generalize xs.getD k 0 = x at e1 e3
      clear h0 h1 h2 h'
      go_wp2
      go_quiet (fail)
      go_wp2
      go_roundw
      case rel => exact ⟨k + 1, by omega, by go_num, _, rfl⟩
      case measure => simp [intOf]; omega
    · clear h0 h1 h2 h'
      go_wp2
      go_ret
      exact ⟨rfl, _, rfl⟩
end Go.Proofs.Qxb6613868a
