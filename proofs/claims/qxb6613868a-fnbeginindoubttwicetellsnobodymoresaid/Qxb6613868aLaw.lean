import Derived.Test.Qxb6613868aMid
namespace Go.Proofs.Qxb6613868a
open Go.RowKit

set_option maxHeartbeats 2000000 in
theorem law_zero (a0 : Option Addr) (c0 : Nat) (a1 : Option Addr) (l1 c1 : Nat) (st oc : Int) (v p : List Int) (w : World) (b1 : l1 ≤ 65536) (n0 : a0 = none → c0 = 0) (n1 : a1 = none → l1 = 0 ∧ c1 = 0) (hst : st ≤ 9)
    (r0 : Rd w a0 0 v) (r1 : Rd w a1 l1 p) :
    Calls Try.prog 4 #[.slice a0 0 c0, .slice a1 l1 c1, .int .u8 st, .int .u8 oc] w fun e w' => e = .returned (.bool true) ∧ Below w.heap.size w w' := by
  have R0 : Hid (Rd w a0 0 v) := r0
  have R1 : Hid (Rd w a1 l1 p) := r1
  have N0 : Hid (a0 = none → c0 = 0) := n0
  have N1 : Hid (a1 = none → l1 = 0 ∧ c1 = 0) := n1
  clear r0 r1 n0 n1
  go_enter Try.func4, Try.ntmps4
  go_wp2_with fail
  refine (bytes_yes a0 a1 0 c0 l1 c1 st oc w (by omega) (by omega)).mono ?_
  rintro e w' ⟨rfl, hw⟩
  have hw := hw.symm
  subst hw
  go_wp2_with fail
  refine (named_any oc w).mono ?_
  rintro e w' ⟨⟨r, rfl⟩, hw⟩
  have hw := hw.symm
  subst hw
  cases r with
  | false =>
    go_wp2
    go_ret
    exact ⟨rfl, Below.refl _ _⟩
  | true =>
    go_wp2_with fail
    refine (toEnl_any a1 l1 c1 p w b1 N1.out R1.out).mono ?_
    rintro e w1 ⟨pa, pc, rfl, q1⟩
    have H1 : Hid (Rd w1 pa l1 p ∧ Below w.heap.size w w1) := q1
    clear q1
    go_wp2_with fail
    refine (toEnl_any a0 0 c0 v w1 (by omega) (fun h => ⟨rfl, N0.out h⟩) (R0.out.below H1.out.2)).mono ?_
    rintro e w2 ⟨va, vc, rfl, q2⟩
    have H2 : Hid (Rd w2 va 0 v ∧ Below w1.heap.size w1 w2) := q2
    clear q2
    go_wp2_with fail
    refine (newTx_any st oc pa l1 pc va 0 vc w2).mono ?_
    rintro e w3 ⟨t, rfl, q3⟩
    have H3 : Hid (w2.heap.size ≤ t ∧ Tx w3 t st oc (.slice pa l1 pc) (.slice va 0 vc) (.slice none 0 0) ∧ Below w2.heap.size w2 w3) := q3
    clear q3
    go_wp2_with fail
    refine (toEnl_any a1 l1 c1 p w3 b1 N1.out (((R1.out.below H1.out.2).below H2.out.2).below H3.out.2.2)).mono ?_
    rintro e w4 ⟨pa', pc', rfl, q4⟩
    have H4 : Hid (Rd w4 pa' l1 p ∧ Below w3.heap.size w3 w4) := q4
    clear q4
    go_wp2_with fail
    refine (newTx_any st oc pa' l1 pc' none 0 0 w4).mono ?_
    rintro e w5 ⟨t', rfl, q5⟩
    have HM : Hid (Mid w w5 t t' st oc pa l1 pc va 0 vc pa' pc' a0 a1 v p) := mid_of R0.out R1.out H1.out H2.out H3.out H4.out q5
    clear q5 H1 H2 H3 H4 R0 R1 N0 N1
    go_wp2_with fail
    refine (begin_zero t st oc (.slice pa l1 pc) (.slice none 0 0) va vc w5 HM.out.T).mono ?_
    rintro e w6 ⟨g, k, rfl, q6⟩
    obtain ⟨T6, c0', c1', c2', g6⟩ := q6
    have HA : Hid (Aft w w6 t t' st oc pa l1 pc none 0 0 pa' pc' a0 a1 v p) := aft_of HM.out T6 ⟨HM.out.R0.1, fun h => absurd h (by omega)⟩ g6
    clear T6 g6 HM
    go_wp2_with fail
    refine (onlyAnswer_yes g k w6 c0' c1' c2').mono ?_
    rintro e w' ⟨rfl, hw⟩
    have hw := hw.symm
    subst hw
    clear c0' c1' c2'
    go_wp2_with fail
    refine (inDoubt_yes t oc pa l1 pc none 0 0 a0 c0 a1 c1 v p _ HA.out.T (by omega) b1 HA.out.Rt HA.out.R0 HA.out.Rp HA.out.R1).mono ?_
    rintro e w7 ⟨rfl, q, rfl⟩
    have HB : Hid (Aft w (w6.drewN q) t t' st oc pa l1 pc none 0 0 pa' pc' a0 a1 v p) := HA.out.drewN q
    clear HA
    generalize w6.drewN q = w7 at HB
    go_wp2_with fail
    refine (begin_zero t 8 oc (.slice pa l1 pc) (.slice none 0 0) none 0 w7 HB.out.T).mono ?_
    rintro e w8 ⟨g2, k2, rfl, q8⟩
    have H8 : Hid (Tx w8 t 8 oc (.slice pa l1 pc) (.slice none 0 0) (.slice none 0 0) ∧ w8.cell? ⟨g2, 0, none⟩ = some (.int .u8 11) ∧ w8.cell? ⟨g2, 1, none⟩ = some (.int .u32 0) ∧ w8.cell? ⟨g2, 2, none⟩ = some (.int .u8 5) ∧ w7.grownBy w8 (some t)) := q8
    clear q8
    go_wp2_with fail
    refine (begin_zero t' st oc (.slice pa' l1 pc') (.slice none 0 0) none 0 w8 (HB.out.T'.grown H8.out.2.2.2.2 (by have := HB.out.ne; simp; omega))).mono ?_
    rintro e w9 ⟨g3, k3, rfl, q9⟩
    obtain ⟨_, d0, d1, d2, gr9⟩ := q9
    obtain ⟨E1, E2, E3, e0, e1, e2, E4⟩ := end_of HB.out H8.out gr9
    have HE1 : Hid (Tx w9 t 8 oc (.slice pa l1 pc) (.slice none 0 0) (.slice none 0 0)) := E1
    have HE2 : Hid (Rd w9 pa l1 p) := E2
    have HE3 : Hid (Rd w9 a1 l1 p) := E3
    have HE4 : Hid (Below w.heap.size w w9) := E4
    clear E1 E2 E3 E4 gr9 HB H8
    go_wp2_with fail
    refine (sameActions_one g2 k2 g3 k3 w9 e0 e1 e2 d0 d1 d2).mono ?_
    rintro e w10 ⟨rfl, q', rfl⟩
    go_wp2_with fail
    refine (onlyAnswer_yes g2 k2 _ (by exact e0) (by exact e1) (by exact e2)).mono ?_
    rintro e w11 ⟨rfl, hw⟩
    have hw := hw.symm
    subst hw
    go_wp2_with fail
    refine (inDoubt_yes t oc pa l1 pc none 0 0 none 0 a1 c1 [] p (w9.drewN q') (by exact HE1.out) (by omega) b1 (Rd.zero _ _) (Rd.zero _ _) (HE2.out.drewN _) (HE3.out.drewN _)).mono ?_
    rintro e w12 ⟨rfl, q'', rfl⟩
    go_wp2
    go_ret
    exact ⟨rfl, below_drewN HE4.out _⟩

set_option maxHeartbeats 2000000 in
theorem law_pos (a0 : Option Addr) (l0 c0 : Nat) (a1 : Option Addr) (l1 c1 : Nat) (st oc : Int) (v p : List Int) (w : World) (hpos : 0 < l0) (b0 : l0 ≤ 65536) (b1 : l1 ≤ 65536) (n0 : a0 = none → l0 = 0 ∧ c0 = 0) (n1 : a1 = none → l1 = 0 ∧ c1 = 0) (hst : st ≤ 9)
    (r0 : Rd w a0 l0 v) (r1 : Rd w a1 l1 p) :
    Calls Try.prog 4 #[.slice a0 l0 c0, .slice a1 l1 c1, .int .u8 st, .int .u8 oc] w fun e w' => e = .returned (.bool true) ∧ Below w.heap.size w w' := by
  have R0 : Hid (Rd w a0 l0 v) := r0
  have R1 : Hid (Rd w a1 l1 p) := r1
  have N0 : Hid (a0 = none → l0 = 0 ∧ c0 = 0) := n0
  have N1 : Hid (a1 = none → l1 = 0 ∧ c1 = 0) := n1
  clear r0 r1 n0 n1
  go_enter Try.func4, Try.ntmps4
  go_wp2_with fail
  refine (bytes_yes a0 a1 l0 c0 l1 c1 st oc w (by omega) (by omega)).mono ?_
  rintro e w' ⟨rfl, hw⟩
  have hw := hw.symm
  subst hw
  go_wp2_with fail
  refine (named_any oc w).mono ?_
  rintro e w' ⟨⟨r, rfl⟩, hw⟩
  have hw := hw.symm
  subst hw
  cases r with
  | false =>
    go_wp2
    go_ret
    exact ⟨rfl, Below.refl _ _⟩
  | true =>
    go_wp2_with fail
    refine (toEnl_any a1 l1 c1 p w b1 N1.out R1.out).mono ?_
    rintro e w1 ⟨pa, pc, rfl, q1⟩
    have H1 : Hid (Rd w1 pa l1 p ∧ Below w.heap.size w w1) := q1
    clear q1
    go_wp2_with fail
    refine (toEnl_any a0 l0 c0 v w1 b0 N0.out (R0.out.below H1.out.2)).mono ?_
    rintro e w2 ⟨va, vc, rfl, q2⟩
    have H2 : Hid (Rd w2 va l0 v ∧ Below w1.heap.size w1 w2) := q2
    clear q2
    go_wp2_with fail
    refine (newTx_any st oc pa l1 pc va l0 vc w2).mono ?_
    rintro e w3 ⟨t, rfl, q3⟩
    have H3 : Hid (w2.heap.size ≤ t ∧ Tx w3 t st oc (.slice pa l1 pc) (.slice va l0 vc) (.slice none 0 0) ∧ Below w2.heap.size w2 w3) := q3
    clear q3
    go_wp2_with fail
    refine (toEnl_any a1 l1 c1 p w3 b1 N1.out (((R1.out.below H1.out.2).below H2.out.2).below H3.out.2.2)).mono ?_
    rintro e w4 ⟨pa', pc', rfl, q4⟩
    have H4 : Hid (Rd w4 pa' l1 p ∧ Below w3.heap.size w3 w4) := q4
    clear q4
    go_wp2_with fail
    refine (newTx_any st oc pa' l1 pc' none 0 0 w4).mono ?_
    rintro e w5 ⟨t', rfl, q5⟩
    have HM : Hid (Mid w w5 t t' st oc pa l1 pc va l0 vc pa' pc' a0 a1 v p) := mid_of R0.out R1.out H1.out H2.out H3.out H4.out q5
    clear q5 H1 H2 H3 H4 R0 R1 N0 N1
    go_wp2_with fail
    obtain ⟨vb, vo, rfl, hrow⟩ := HM.out.Rv.2 hpos
    refine (begin_pos t st oc (.slice pa l1 pc) (.slice none 0 0) vb vo l0 vc v w5 HM.out.T hpos b0 HM.out.Rv.1 (HM.out.nv hpos vb vo rfl) (HM.out.Rv.lt hpos) hrow).mono ?_
    rintro e w6 ⟨r, rc, g, k, rfl, q6⟩
    obtain ⟨T6, _, tc6, m0, m1, m2, g6⟩ := q6
    have HA0 : Hid (Aft w w6 t t' st oc pa l1 pc (some ⟨g, 0, none⟩) l0 k pa' pc' a0 a1 v p) := aft_of HM.out T6 (Rd.mk' HM.out.Rv.1 tc6) g6
    have HM0 : Hid (∀ i, i < l0 → w6.cell? ⟨r, i * 3, none⟩ = some (.int .u8 10)) := m0
    have HM1 : Hid (∀ i, i < l0 → w6.cell? ⟨r, i * 3 + 1, none⟩ = some (.int .u32 (v.getD i 0))) := m1
    have HM2 : Hid (∀ i, i < l0 → w6.cell? ⟨r, i * 3 + 2, none⟩ = some (.int .u8 0)) := m2
    clear T6 g6 HM hrow tc6 m0 m1 m2
    go_wp2_with fail
    obtain ⟨eb, eo, rfl, erow⟩ := HA0.out.R0.2 hpos
    refine (toldEach_pos r rc eb eo c0 l0 10 v w6 b0 HM0.out HM1.out HM2.out erow).mono ?_
    rintro e w' ⟨rfl, q0, rfl⟩
    have HA : Hid (Aft w (w6.drewN q0) t t' st oc pa l1 pc (some ⟨g, 0, none⟩) l0 k pa' pc' (some ⟨eb, eo, none⟩) a1 v p) := HA0.out.drewN q0
    clear HA0 HM0 HM1 HM2 erow
    generalize w6.drewN q0 = w6 at HA
    go_wp2_with fail
    refine (inDoubt_yes t oc pa l1 pc (some ⟨g, 0, none⟩) l0 k (some ⟨eb, eo, none⟩) c0 a1 c1 v p _ HA.out.T b0 b1 HA.out.Rt HA.out.R0 HA.out.Rp HA.out.R1).mono ?_
    rintro e w7 ⟨rfl, q, rfl⟩
    have HB : Hid (Aft w (w6.drewN q) t t' st oc pa l1 pc (some ⟨g, 0, none⟩) l0 k pa' pc' (some ⟨eb, eo, none⟩) a1 v p) := HA.out.drewN q
    clear HA
    generalize w6.drewN q = w7 at HB
    go_wp2_with fail
    refine (begin_zero t 8 oc (.slice pa l1 pc) (.slice (some ⟨g, 0, none⟩) l0 k) none 0 w7 HB.out.T).mono ?_
    rintro e w8 ⟨g2, k2, rfl, q8⟩
    have H8 : Hid (Tx w8 t 8 oc (.slice pa l1 pc) (.slice none 0 0) (.slice none 0 0) ∧ w8.cell? ⟨g2, 0, none⟩ = some (.int .u8 11) ∧ w8.cell? ⟨g2, 1, none⟩ = some (.int .u32 0) ∧ w8.cell? ⟨g2, 2, none⟩ = some (.int .u8 5) ∧ w7.grownBy w8 (some t)) := q8
    clear q8
    go_wp2_with fail
    refine (begin_zero t' st oc (.slice pa' l1 pc') (.slice none 0 0) none 0 w8 (HB.out.T'.grown H8.out.2.2.2.2 (by have := HB.out.ne; simp; omega))).mono ?_
    rintro e w9 ⟨g3, k3, rfl, q9⟩
    obtain ⟨_, d0, d1, d2, gr9⟩ := q9
    obtain ⟨E1, E2, E3, e0, e1, e2, E4⟩ := end_of HB.out H8.out gr9
    have HE1 : Hid (Tx w9 t 8 oc (.slice pa l1 pc) (.slice none 0 0) (.slice none 0 0)) := E1
    have HE2 : Hid (Rd w9 pa l1 p) := E2
    have HE3 : Hid (Rd w9 a1 l1 p) := E3
    have HE4 : Hid (Below w.heap.size w w9) := E4
    clear E1 E2 E3 E4 gr9 HB H8
    go_wp2_with fail
    refine (sameActions_one g2 k2 g3 k3 w9 e0 e1 e2 d0 d1 d2).mono ?_
    rintro e w10 ⟨rfl, q', rfl⟩
    go_wp2_with fail
    refine (onlyAnswer_yes g2 k2 _ (by exact e0) (by exact e1) (by exact e2)).mono ?_
    rintro e w11 ⟨rfl, hw⟩
    have hw := hw.symm
    subst hw
    go_wp2_with fail
    refine (inDoubt_yes t oc pa l1 pc none 0 0 none 0 a1 c1 [] p (w9.drewN q') (by exact HE1.out) (by omega) b1 (Rd.zero _ _) (Rd.zero _ _) (HE2.out.drewN _) (HE3.out.drewN _)).mono ?_
    rintro e w12 ⟨rfl, q'', rfl⟩
    go_wp2
    go_ret
    exact ⟨rfl, below_drewN HE4.out _⟩

end Go.Proofs.Qxb6613868a
