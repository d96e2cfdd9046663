import Derived.Test.Qxb6601109aInv
namespace Go.Proofs.Qxb6601109a
open Go.RowKit Go.Maps

/-- Two containers side by side, each with its own list of keys and its own set. -/
structure Two (W w : World) (P1 D1 P2 D2 : List (List UInt8)) (cb1 cb2 : Nat) (v1 v2 : Value) (m1 m2 : Option Nat) : Prop where
  st1 : St w W.heap.size cb1 P1 D1 v1 m1
  st2 : St w W.heap.size cb2 P2 D2 v2 m2
  below : Below W.heap.size W w
  ne : cb1 ≠ cb2
  rows : ∀ g, v1.ownBlock = some g → v2.ownBlock ≠ some g
  sets : ∀ g, m1 = some g → m2 ≠ some g
  c1 : W.heap.size ≤ cb1
  c2 : W.heap.size ≤ cb2
  b1 : ∀ g, m1 = some g → W.heap.size ≤ g
  b2 : ∀ g, m2 = some g → W.heap.size ≤ g

theorem Two.swap {W w : World} {P1 D1 P2 D2 : List (List UInt8)} {cb1 cb2 : Nat} {v1 v2 : Value} {m1 m2 : Option Nat} (h : Two W w P1 D1 P2 D2 cb1 cb2 v1 v2 m1 m2) : Two W w P2 D2 P1 D1 cb2 cb1 v2 v1 m2 m1 :=
  ⟨h.st2, h.st1, h.below, fun e => h.ne e.symm, fun g hg e => h.rows g e hg, fun g hg e => h.sets g e hg, h.c2, h.c1, h.b2, h.b1⟩

theorem Two.after {W w w' : World} {P1 D1 P2 D2 : List (List UInt8)} {cb1 cb2 : Nat} {v1 v2 : Value} {m1 m2 : Option Nat} (h : Two W w P1 D1 P2 D2 cb1 cb2 v1 v2 m1 m2) (hb : Below w.heap.size w w') : Two W w' P1 D1 P2 D2 cb1 cb2 v1 v2 m1 m2 :=
  ⟨h.st1.below hb, h.st2.below hb, h.below.trans (hb.mono h.below.size), h.ne, h.rows, h.sets, h.c1, h.c2, h.b1, h.b2⟩

/-- What a row, a container and a set are: three kinds of block. -/
theorem St.kinds {w : World} {base cb : Nat} {P D : List (List UInt8)} {v : Value} {m : Option Nat} (h : St w base cb P D v m) :
    (∃ c, w.heap[cb]? = some (.cells c 38 (0, 0))) ∧ (∀ g, v.ownBlock = some g → ∃ c, w.heap[g]? = some (.cells c 29 (0, 0))) ∧ ∀ g, m = some g → ∃ es cl, w.heap[g]? = some (.map es cl) := by
  refine ⟨⟨_, h.1⟩, fun g hg => ?_, fun g hg => ?_⟩
  · obtain ⟨vals, ⟨_, h2⟩, _⟩ := h.row
    rcases h2 with ⟨rfl, _⟩ | ⟨g', cap, cur, rfl, _, hg', _⟩
    · cases hg
    · cases hg; exact ⟨cur, hg'⟩
  · obtain ⟨_, _, ⟨_, h2, _⟩ | ⟨_, _, mb, n, h2, ⟨Dm, ⟨es, cl, h3, _⟩, _⟩, _⟩⟩ := h
    · rw [h2] at hg; cases hg
    · rw [h2] at hg; cases hg; exact ⟨es, cl, h3⟩

theorem St.cross {w w' : World} {base cb1 cb2 : Nat} {P1 D1 P2 D2 : List (List UInt8)} {v1 v2 : Value} {m1 m2 : Option Nat} (h1 : St w base cb1 P1 D1 v1 m1) (h2 : St w base cb2 P2 D2 v2 m2) (hne : cb1 ≠ cb2)
    (hr : ∀ g, v1.ownBlock = some g → v2.ownBlock ≠ some g) (hs : ∀ g, m1 = some g → m2 ≠ some g) (ho : Others w w' cb1 v1.ownBlock m1) : St w' base cb2 P2 D2 v2 m2 := by
  obtain ⟨⟨c1, k1⟩, r1, s1⟩ := h1.kinds
  obtain ⟨⟨c2, k2⟩, r2, s2⟩ := h2.kinds
  obtain ⟨l1, l2, l3⟩ := h2.lts
  -- a block of cells of another type than 38 and 29 is none of the three
  have hcells : ∀ (b : Nat) (c : Array Value) (t : TypeId), w.heap[b]? = some (.cells c t (0, 0)) → b ≠ cb1 → some b ≠ v1.ownBlock → w'.heap[b]? = w.heap[b]? := by
    intro b c t hb hbc hbr
    refine ho.block b (Array.getElem?_eq_some_iff.1 hb).1 hbc hbr ?_
    intro e
    obtain ⟨es, cl, hm⟩ := s1 b e.symm
    rw [hb] at hm; cases hm
  have t29 : ∀ (b : Nat) (c : Array Value) (t : TypeId), w.heap[b]? = some (.cells c t (0, 0)) → t ≠ 29 → some b ≠ v1.ownBlock := by
    intro b c t hb ht e
    obtain ⟨c', hc'⟩ := r1 b e.symm
    rw [hb] at hc'
    injection hc' with hc'; injection hc' with _ e2 _; exact ht e2
  have t38 : ∀ (b : Nat) (c : Array Value) (t : TypeId), w.heap[b]? = some (.cells c t (0, 0)) → t ≠ 38 → b ≠ cb1 := by
    intro b c t hb ht e
    subst e
    rw [hb] at k1
    injection k1 with k1; injection k1 with _ e2 _; exact ht e2
  refine h2.carry (hcells cb2 c2 38 k2 (fun e => hne e.symm) (t29 cb2 c2 38 k2 (by decide))) (fun g hg => ?_) (fun g hg => ?_) (fun b c hb => ?_) ho.size
  · obtain ⟨c, hc⟩ := r2 g hg
    exact hcells g c 29 hc (t38 g c 29 hc (by decide)) (fun e => hr g e.symm hg)
  · obtain ⟨es, cl, hm⟩ := s2 g hg
    refine ho.block g (l3 g hg) ?_ ?_ (fun e => hs g e.symm hg)
    · rintro rfl; rw [hm] at k1; cases k1
    · intro e
      obtain ⟨c', hc'⟩ := r1 g e.symm
      rw [hm] at hc'; cases hc'
  · exact (hcells b c 5 hb (t38 b c 5 hb (by decide)) (t29 b c 5 hb (by decide))).trans hb

theorem Two.step {W w w' : World} {P1 D1 P2 D2 : List (List UInt8)} {cb1 cb2 : Nat} {v1 v2 : Value} {m1 m2 : Option Nat} {key : List UInt8} {v1' b : Value} (h : Two W w P1 D1 P2 D2 cb1 cb2 v1 v2 m1 m2)
    (hs : StepsTo w W.heap.size cb1 P1 D1 v1 m1 key v1' b w') : b = .bool (decide (key ∈ D1)) ∧ ∃ m1', Two W w' P1 (nextD D1 key) P2 D2 cb1 cb2 v1' v2 m1' m2 := by
  obtain ⟨hb, m', hst, ho, hv, hm⟩ := hs
  obtain ⟨l1, l2, l3⟩ := h.st2.lts
  have hWs := h.below.size
  refine ⟨hb, m', hst, h.st1.cross h.st2 h.ne h.rows h.sets ho, ?_, h.ne, ?_, ?_, h.c1, h.c2, ?_, h.b2⟩
  · refine ⟨ho.os.trans h.below.os, ho.tape.trans h.below.tape, ho.output.trans h.below.output, Nat.le_trans hWs ho.size, fun x hx => ?_⟩
    rw [ho.block x (by omega) (by have := h.c1; omega) ?_ ?_, h.below.block x hx]
    · intro e; have := h.st1.cbge x e.symm; omega
    · intro e; have := h.b1 x e.symm; omega
  · intro g hg
    rcases hv with e | ⟨g', e, hg'⟩
    · exact h.rows g (by rw [← e]; exact hg)
    · rw [e] at hg; cases hg
      intro e2; have := l2 _ e2; omega
  · intro g hg
    rcases hm with e | ⟨g', e, hg'⟩
    · exact h.sets g (by rw [← e]; exact hg)
    · rw [e] at hg; cases hg
      intro e2; have := l3 _ e2; omega
  · intro g hg
    rcases hm with e | ⟨g', e, hg'⟩
    · exact h.b1 g (by rw [← e]; exact hg)
    · rw [e] at hg; cases hg; omega
end Go.Proofs.Qxb6601109a
