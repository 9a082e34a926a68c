import Derived.Test.Qxb6613868aBegin
namespace Go.Proofs.Qxb6613868a
open Go.RowKit

/-- The slice at a, of n elements, reads as the numbers xs. -/
def Rd (w : World) (a : Option Addr) (n : Nat) (xs : List Int) : Prop := xs.length = n ∧ (0 < n → ∃ b o, a = some ⟨b, o, none⟩ ∧ ∀ i, i < n → w.cell? ⟨b, o + i, none⟩ = some (.int .u32 (xs.getD i 0)))
theorem Rd.drewN {w : World} {a : Option Addr} {n : Nat} {xs : List Int} (h : Rd w a n xs) (q : Nat) : Rd (w.drewN q) a n xs := h
theorem Rd.zero (w : World) (a : Option Addr) : Rd w a 0 [] := ⟨rfl, fun h => absurd h (by omega)⟩
theorem Rd.mk' {w : World} {b o n : Nat} {xs : List Int} (hx : xs.length = n) (h : ∀ i, i < n → w.cell? ⟨b, o + i, none⟩ = some (.int .u32 (xs.getD i 0))) : Rd w (some ⟨b, o, none⟩) n xs := ⟨hx, fun _ => ⟨b, o, rfl, h⟩⟩
theorem lt_of_cell {w : World} {b o : Nat} {v : Value} (h : w.cell? ⟨b, o, none⟩ = some v) : b < w.heap.size := by
  by_cases hb : b < w.heap.size
  · exact hb
  · have : w.heap[b]? = none := Array.getElem?_eq_none (by omega)
    simp [World.cell?, this] at h
theorem Rd.lt {w : World} {b o n : Nat} {xs : List Int} (h : Rd w (some ⟨b, o, none⟩) n xs) (hn : 0 < n) : b < w.heap.size := by
  obtain ⟨b', o', e, hc⟩ := h.2 hn
  simp at e
  obtain ⟨rfl, rfl⟩ := e
  exact lt_of_cell (hc 0 hn)
/-- It reads so still where its block has not turned. -/
theorem Rd.kept {w w' : World} {a : Option Addr} {n : Nat} {xs : List Int} (h : Rd w a n xs) (hk : ∀ b o, a = some ⟨b, o, none⟩ → b < w.heap.size → w'.heap[b]? = w.heap[b]?) : Rd w' a n xs := by
  refine ⟨h.1, fun hn => ?_⟩
  obtain ⟨b, o, rfl, hc⟩ := h.2 hn
  exact ⟨b, o, rfl, fun i hi => (World.cell?_of_block (w := w) (a := ⟨b, o + i, none⟩) (hk b o rfl (lt_of_cell (hc i hi)))).trans (hc i hi)⟩
theorem Rd.below {w w' : World} {a : Option Addr} {n : Nat} {xs : List Int} (h : Rd w a n xs) (hb : Below w.heap.size w w') : Rd w' a n xs := h.kept fun b _ _ hlt => hb.block b hlt
/-- .. and where another block than its own has turned. -/
theorem Rd.grown {w w' : World} {a : Option Addr} {n t : Nat} {xs : List Int} (h : Rd w a n xs) (hg : w.grownBy w' (some t)) (hne : 0 < n → ∀ b o, a = some ⟨b, o, none⟩ → b ≠ t) : Rd w' a n xs := by
  by_cases hn : 0 < n
  · exact h.kept fun b o e hlt => hg.block b hlt (by simpa using hne hn b o e)
  · exact ⟨h.1, fun h' => absurd h' hn⟩
/-- Its block lies below the heap's end. -/
theorem Rd.blockLt {w : World} {a : Option Addr} {n : Nat} {xs : List Int} (h : Rd w a n xs) : 0 < n → ∀ b o, a = some ⟨b, o, none⟩ → b < w.heap.size := by
  intro hn b o e
  subst e
  exact h.lt hn

theorem toEnl_any (a : Option Addr) (n c : Nat) (xs : List Int) (w : World) (hb : n ≤ 65536) (hnil : a = none → n = 0 ∧ c = 0) (h : Rd w a n xs) :
    Calls Try.prog 7 #[.slice a n c] w fun e w' => ∃ a' c', e = .returned (.slice a' n c') ∧ Rd w' a' n xs ∧ Below w.heap.size w w' := by
  cases a with
  | none =>
    obtain ⟨rfl, rfl⟩ := hnil rfl
    refine (toEnl_nil w).mono ?_
    rintro e w' ⟨rfl, rfl⟩
    exact ⟨none, 0, rfl, h, Below.refl _ _⟩
  | some x =>
    by_cases hn : 0 < n
    · obtain ⟨b, o, e, hc⟩ := h.2 hn
      cases e
      refine (toEnl_pos b o n c xs w hb h.1 (lt_of_cell (hc 0 hn)) hc).mono ?_
      rintro e w' ⟨rfl, hown, hbel⟩
      exact ⟨_, n, rfl, ⟨h.1, fun _ => ⟨_, 0, rfl, own_cells h.1 hown⟩⟩, hbel⟩
    · obtain rfl : n = 0 := by omega
      refine (toEnl_zero x c w).mono ?_
      rintro e w' ⟨rfl, hbel⟩
      exact ⟨_, 0, rfl, ⟨h.1, fun h' => absurd h' hn⟩, hbel⟩

theorem newTx_any (st oc : Int) (pa : Option Addr) (pl pc : Nat) (va : Option Addr) (vl vc : Nat) (w : World) :
    Calls Try.prog 6 #[.int .u8 st, .int .u8 oc, .bool false, .slice none 0 0, .slice pa pl pc, .slice va vl vc, .slice none 0 0] w fun e w' => ∃ t, e = .returned (.pointer (some ⟨t, 0, none⟩)) ∧ w.heap.size ≤ t ∧ Tx w' t st oc (.slice pa pl pc) (.slice va vl vc) (.slice none 0 0) ∧ Below w.heap.size w w' := by
  refine (newTx st oc pa pl pc va vl vc w).mono ?_
  rintro e w' ⟨rfl, rfl⟩
  exact ⟨_, rfl, Nat.le_refl _, heap_alloc_new w _, (Below.refl _ _).alloc (Nat.le_refl _) _⟩
/-- An answer's block is no Transaction's. -/
theorem answer_ne {w : World} {g t : Nat} {st oc : Int} {p2 v2 td : Value} (h : w.cell? ⟨g, 1, none⟩ = some (.int .u32 0)) (hT : Tx w t st oc p2 v2 td) : g ≠ t := by
  rintro rfl
  rw [cell_of_row w g 1 _ _ _ hT] at h
  simp [TX] at h

theorem sameEnl_any (a : Option Addr) (c : Nat) (a' : Option Addr) (c' n : Nat) (xs : List Int) (w : World) (hb : n ≤ 65536) (h : Rd w a n xs) (h' : Rd w a' n xs) :
    Calls Try.prog 27 #[.slice a n c, .slice a' n c'] w fun e w' => e = .returned (.bool true) ∧ ∃ q, w' = w.drewN q := by
  by_cases hn : 0 < n
  · obtain ⟨b, o, rfl, hc⟩ := h.2 hn
    obtain ⟨b', o', rfl, hc'⟩ := h'.2 hn
    exact sameEnl_pos b o c b' o' c' n xs w hb hc hc'
  · obtain rfl : n = 0 := by omega
    exact sameEnl_zero a a' c c' w

set_option maxHeartbeats 800000 in
theorem inDoubt_yes (b : Nat) (oc : Int) (pa : Option Addr) (pl pc : Nat) (ta : Option Addr) (tl tc : Nat) (a0 : Option Addr) (c0 : Nat) (a1 : Option Addr) (c1 : Nat) (xs ps : List Int) (w : World)
    (hT : Tx w b 8 oc (.slice pa pl pc) (.slice none 0 0) (.slice ta tl tc)) (htl : tl ≤ 65536) (hpl : pl ≤ 65536) (ht : Rd w ta tl xs) (ht' : Rd w a0 tl xs) (hp : Rd w pa pl ps) (hp' : Rd w a1 pl ps) :
    Calls Try.prog 16 #[.pointer (some ⟨b, 0, none⟩), .slice a0 tl c0, .slice a1 pl c1, .int .u8 oc] w fun e w' => e = .returned (.bool true) ∧ ∃ q, w' = w.drewN q := by
  have e0 := hT.c0
  have e2 := hT.c2
  have e6 := hT.c6
  have e7 := hT.c7
  have e14 := hT.c14
  have e15 := hT.c15
  have e16 := hT.c16
  have e18 := hT.c18
  have Ht : Hid (Rd w ta tl xs) := ht
  have Ht' : Hid (Rd w a0 tl xs) := ht'
  have Hp : Hid (Rd w pa pl ps) := hp
  have Hp' : Hid (Rd w a1 pl ps) := hp'
  clear hT ht ht' hp hp'
  go_enter Try.func16, Try.ntmps16
  go_wp2_with (first | (go_at_call 18; go_in) | (go_at_call 25; go_in))
  refine (sameEnl_any ta tc a0 c0 tl xs w htl Ht.out Ht'.out).mono ?_
  rintro e w1 ⟨rfl, q, rfl⟩
  go_wp2_with (first | (go_at_call 26; go_in) | (go_at_call 21; go_in))
  refine (sameEnl_any pa pc a1 c1 pl ps _ hpl (Hp.out.drewN _) (Hp'.out.drewN _)).mono ?_
  rintro e w1 ⟨rfl, q', rfl⟩
  go_wp2_with (first | (go_at_call 23; go_in) | (go_at_call 20; go_in) | (go_at_call 24; go_in) | (go_at_call 22; go_in))
  go_ret
  exact ⟨rfl, q + q', rfl⟩
end Go.Proofs.Qxb6613868a
