import Derived.Test.Qxb6613868aRead
namespace Go.Proofs.Qxb6613868a
open Go.RowKit

/-- WHAT STANDS WHEN BOTH TRANSACTIONS ARE MADE. -/
structure Mid (w w5 : World) (t t' : Nat) (st oc : Int) (pa : Option Addr) (l1 pc : Nat) (va : Option Addr) (l0 vc : Nat) (pa' : Option Addr) (pc' : Nat) (a0 a1 : Option Addr) (v p : List Int) : Prop where
  T : Tx w5 t st oc (.slice pa l1 pc) (.slice va l0 vc) (.slice none 0 0)
  T' : Tx w5 t' st oc (.slice pa' l1 pc') (.slice none 0 0) (.slice none 0 0)
  ne : t ≠ t'
  Rp : Rd w5 pa l1 p
  Rv : Rd w5 va l0 v
  R0 : Rd w5 a0 l0 v
  R1 : Rd w5 a1 l1 p
  np : 0 < l1 → ∀ b o, pa = some ⟨b, o, none⟩ → b ≠ t ∧ b ≠ t'
  nv : 0 < l0 → ∀ b o, va = some ⟨b, o, none⟩ → b ≠ t
  n0 : 0 < l0 → ∀ b o, a0 = some ⟨b, o, none⟩ → b ≠ t
  n1 : 0 < l1 → ∀ b o, a1 = some ⟨b, o, none⟩ → b ≠ t ∧ b ≠ t'
  bel : Below w.heap.size w w5
  ht : w.heap.size ≤ t
  ht' : w.heap.size ≤ t'

theorem mid_of {w w1 w2 w3 w4 w5 : World} {t t' : Nat} {st oc : Int} {pa : Option Addr} {l1 pc : Nat} {va : Option Addr} {l0 vc : Nat} {pa' : Option Addr} {pc' : Nat} {a0 a1 : Option Addr} {v p : List Int}
    (r0 : Rd w a0 l0 v) (r1 : Rd w a1 l1 p)
    (h1 : Rd w1 pa l1 p ∧ Below w.heap.size w w1) (h2 : Rd w2 va l0 v ∧ Below w1.heap.size w1 w2)
    (h3 : w2.heap.size ≤ t ∧ Tx w3 t st oc (.slice pa l1 pc) (.slice va l0 vc) (.slice none 0 0) ∧ Below w2.heap.size w2 w3)
    (h4 : Rd w4 pa' l1 p ∧ Below w3.heap.size w3 w4)
    (h5 : w4.heap.size ≤ t' ∧ Tx w5 t' st oc (.slice pa' l1 pc') (.slice none 0 0) (.slice none 0 0) ∧ Below w4.heap.size w4 w5) :
    Mid w w5 t t' st oc pa l1 pc va l0 vc pa' pc' a0 a1 v p := by
  have s1 := h1.2.size
  have s2 := h2.2.size
  have s3 := h3.2.2.size
  have s4 := h4.2.size
  have s5 := h5.2.2.size
  have lt3 := h3.2.1.lt
  have b2 : Below w.heap.size w w2 := h1.2.trans (h2.2.mono s1)
  have b3 : Below w.heap.size w w3 := b2.trans (h3.2.2.mono (by omega))
  have b4 : Below w.heap.size w w4 := b3.trans (h4.2.mono (by omega))
  have b5 : Below w.heap.size w w5 := b4.trans (h5.2.2.mono (by omega))
  have p2 : Rd w2 pa l1 p := h1.1.below h2.2
  have p3 : Rd w3 pa l1 p := p2.below h3.2.2
  have p4 : Rd w4 pa l1 p := p3.below h4.2
  have p5 : Rd w5 pa l1 p := p4.below h5.2.2
  have v3 : Rd w3 va l0 v := h2.1.below h3.2.2
  have v5 : Rd w5 va l0 v := (v3.below h4.2).below h5.2.2
  have k0 := r0.blockLt
  have k1 := r1.blockLt
  have kp := p2.blockLt
  have kv := h2.1.blockLt
  exact { T := (h3.2.1.below h4.2 lt3).below h5.2.2 (by omega), T' := h5.2.1, ne := by omega, Rp := p5, Rv := v5, R0 := r0.below b5, R1 := r1.below b5
          np := fun hn b o e => by have := kp hn b o e; omega
          nv := fun hn b o e => by have := kv hn b o e; omega
          n0 := fun hn b o e => by have := k0 hn b o e; omega
          n1 := fun hn b o e => by have := k1 hn b o e; omega
          bel := b5, ht := by omega, ht' := by omega }

/-- WHAT STANDS BEHIND THE FIRST beginInDoubt. -/
structure Aft (w w6 : World) (t t' : Nat) (st oc : Int) (pa : Option Addr) (l1 pc : Nat) (ta : Option Addr) (l0 tc : Nat) (pa' : Option Addr) (pc' : Nat) (a0 a1 : Option Addr) (v p : List Int) : Prop where
  T : Tx w6 t 8 oc (.slice pa l1 pc) (.slice none 0 0) (.slice ta l0 tc)
  T' : Tx w6 t' st oc (.slice pa' l1 pc') (.slice none 0 0) (.slice none 0 0)
  ne : t ≠ t'
  Rt : Rd w6 ta l0 v
  Rp : Rd w6 pa l1 p
  R0 : Rd w6 a0 l0 v
  R1 : Rd w6 a1 l1 p
  np : 0 < l1 → ∀ b o, pa = some ⟨b, o, none⟩ → b ≠ t ∧ b ≠ t'
  n1 : 0 < l1 → ∀ b o, a1 = some ⟨b, o, none⟩ → b ≠ t ∧ b ≠ t'
  bel : Below w.heap.size w w6
  ht : w.heap.size ≤ t
  ht' : w.heap.size ≤ t'

theorem aft_of {w w5 w6 : World} {t t' : Nat} {st oc : Int} {pa : Option Addr} {l1 pc : Nat} {va : Option Addr} {l0 vc : Nat} {pa' : Option Addr} {pc' : Nat} {a0 a1 : Option Addr} {v p : List Int} {ta : Option Addr} {tc : Nat}
    (m : Mid w w5 t t' st oc pa l1 pc va l0 vc pa' pc' a0 a1 v p) (hT : Tx w6 t 8 oc (.slice pa l1 pc) (.slice none 0 0) (.slice ta l0 tc)) (hR : Rd w6 ta l0 v) (hg : w5.grownBy w6 (some t)) :
    Aft w w6 t t' st oc pa l1 pc ta l0 tc pa' pc' a0 a1 v p :=
  { T := hT, T' := m.T'.grown hg (by have := m.ne; simp; omega), ne := m.ne, Rt := hR, Rp := m.Rp.grown hg fun hn b o e => (m.np hn b o e).1
    R0 := m.R0.grown hg m.n0, R1 := m.R1.grown hg fun hn b o e => (m.n1 hn b o e).1, np := m.np, n1 := m.n1
    bel := m.bel.trans (below_grown hg m.ht m.bel.size), ht := m.ht, ht' := m.ht' }

/-- AND BEHIND THE TWO OTHERS: what sameActions, onlyAnswer and inDoubtAfter read. -/
theorem end_of {w w7 w8 w9 : World} {t t' : Nat} {st oc : Int} {pa : Option Addr} {l1 pc : Nat} {ta : Option Addr} {l0 tc : Nat} {pa' : Option Addr} {pc' : Nat} {a0 a1 : Option Addr} {v p : List Int} {g2 : Nat}
    (m : Aft w w7 t t' st oc pa l1 pc ta l0 tc pa' pc' a0 a1 v p)
    (h8 : Tx w8 t 8 oc (.slice pa l1 pc) (.slice none 0 0) (.slice none 0 0) ∧ w8.cell? ⟨g2, 0, none⟩ = some (.int .u8 11) ∧ w8.cell? ⟨g2, 1, none⟩ = some (.int .u32 0) ∧ w8.cell? ⟨g2, 2, none⟩ = some (.int .u8 5) ∧ w7.grownBy w8 (some t))
    (h9 : w8.grownBy w9 (some t')) :
    Tx w9 t 8 oc (.slice pa l1 pc) (.slice none 0 0) (.slice none 0 0) ∧ Rd w9 pa l1 p ∧ Rd w9 a1 l1 p ∧ w9.cell? ⟨g2, 0, none⟩ = some (.int .u8 11) ∧ w9.cell? ⟨g2, 1, none⟩ = some (.int .u32 0) ∧ w9.cell? ⟨g2, 2, none⟩ = some (.int .u8 5) ∧ Below w.heap.size w w9 := by
  obtain ⟨hT, q0, q1, q2, g8⟩ := h8
  have T8' : Tx w8 t' st oc (.slice pa' l1 pc') (.slice none 0 0) (.slice none 0 0) := m.T'.grown g8 (by have := m.ne; simp; omega)
  have hne := answer_ne q1 T8'
  have hlt := lt_of_cell q1
  have eb := h9.block g2 hlt (by simpa using hne)
  refine ⟨hT.grown h9 (by have := m.ne; simp; omega), ?_, ?_, ?_, ?_, ?_, ?_⟩
  · exact (m.Rp.grown g8 fun hn b o e => (m.np hn b o e).1).grown h9 fun hn b o e => (m.np hn b o e).2
  · exact (m.R1.grown g8 fun hn b o e => (m.n1 hn b o e).1).grown h9 fun hn b o e => (m.n1 hn b o e).2
  · rw [World.cell?_of_block (w := w8) (a := ⟨g2, 0, none⟩) eb]; exact q0
  · rw [World.cell?_of_block (w := w8) (a := ⟨g2, 1, none⟩) eb]; exact q1
  · rw [World.cell?_of_block (w := w8) (a := ⟨g2, 2, none⟩) eb]; exact q2
  · have b8 : Below w.heap.size w w8 := m.bel.trans (below_grown g8 m.ht m.bel.size)
    exact b8.trans (below_grown h9 m.ht' b8.size)
theorem Aft.drewN {w w6 : World} {t t' : Nat} {st oc : Int} {pa : Option Addr} {l1 pc : Nat} {ta : Option Addr} {l0 tc : Nat} {pa' : Option Addr} {pc' : Nat} {a0 a1 : Option Addr} {v p : List Int}
    (m : Aft w w6 t t' st oc pa l1 pc ta l0 tc pa' pc' a0 a1 v p) (q : Nat) : Aft w (w6.drewN q) t t' st oc pa l1 pc ta l0 tc pa' pc' a0 a1 v p :=
  { T := m.T, T' := m.T', ne := m.ne, Rt := m.Rt, Rp := m.Rp, R0 := m.R0, R1 := m.R1, np := m.np, n1 := m.n1, bel := ⟨m.bel.os, m.bel.tape, m.bel.output, m.bel.size, m.bel.block⟩, ht := m.ht, ht' := m.ht' }
theorem below_drewN {B : Nat} {a w : World} (h : Below B a w) (q : Nat) : Below B a (w.drewN q) := ⟨h.os, h.tape, h.output, h.size, h.block⟩
end Go.Proofs.Qxb6613868a
