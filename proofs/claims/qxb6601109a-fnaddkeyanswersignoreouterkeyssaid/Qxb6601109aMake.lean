import Derived.Test.Qxb6601109aAdd
namespace Go.Proofs.Qxb6601109a
open Go.RowKit Go.Maps

theorem Kept.of_but {w w' : World} {cb : Nat} {c : Array Value} {fz : Nat × Nat} (hcb : w.heap[cb]? = some (.cells c 38 fz)) (h : ∀ b, b < w.heap.size → b ≠ cb → w'.heap[b]? = w.heap[b]?) : Kept w w' := by
  intro b c' t ht hb
  have hne : b ≠ cb := by
    rintro rfl
    rw [hb] at hcb
    injection hcb with hc
    injection hc with _ h2 _
    exact ht h2
  exact (h b (Array.getElem?_eq_some_iff.1 hb).1 hne).trans hb

set_option maxHeartbeats 1000000 in
/-- No set yet, eight own keys, a ninth: the set is made of the eight, and the key put in; the list is cut back to the outer keys. -/
theorem addKey_make (cb : Nat) (P D : List (List UInt8)) (key : List UInt8) (a ak : Option Addr) (cap ck : Nat) (w : World)
    (hcb : w.heap[cb]? = some (.cells (ctr P.length (.map none)) 38 (0, 0))) (hl : ∀ w', Kept w w' → LS w' a (P ++ D)) (hc : P.length + D.length ≤ cap) (hk : ∀ w', Kept w w' → BS w' ak key) (hkl : key.length ≤ 1048576)
    (hDl : ∀ i, i < D.length → (D.getD i []).length ≤ 1048576) (hnin : key ∉ D) (h8 : 8 ≤ D.length) (hD : D.length ≤ 4096) :
    Calls Try.prog 20 #[.pointer (some ⟨cb, 0, none⟩), .slice ak key.length ck, .slice a (P.length + D.length) cap] w fun e w' =>
      ∃ mb n, e = .returned (.tuple #[.slice a P.length cap, .bool false]) ∧ w'.heap[cb]? = some (.cells (ctr P.length (.map (some mb))) 38 (0, 0)) ∧ SetOf w' mb n (D ++ [key]) ∧ n ≤ 8192 ∧ w.heap.size ≤ mb ∧ w.grownBy w' (some cb) := by
  have hmn := fun w r => run_eql_map_nil (P := Try.prog) w 36 9 4 r Try.underlying36
  have hcut := run_cut a (P.length + D.length) D.length P.length cap rfl hc
  obtain ⟨b, o, hcu, _⟩ := ((hl w (Kept.refl w)).drop hc).at (i := 0) (by omega)
  rw [hcu] at hcut
  have hhead := run_head a (P.length + D.length) P.length cap (by omega)
  have hb0 := at_alloc hcb (.cells #[.slice ak key.length ck] 29)
  obtain ⟨g1, g2, g3⟩ := ctr_cells hb0
  have hb00 := at_alloc hb0 (.map #[] 0)
  obtain ⟨k1, k2, k3⟩ := ctr_cells hb00
  have hkp : Kept w (w.alloc (.cells #[.slice ak key.length ck] 29)) := (Kept.refl w).alloc _
  have hl1 := (hl _ hkp).drop hc
  rw [hcu] at hl1
  have HC : Hid (cutAt a P.length cap = some ⟨b, o, none⟩) := hcu
  clear hcu
  have hk1 := hk _ hkp
  have hd : decide (key ∈ D) = false := by simp [hnin]
  have hp : (w.alloc (.cells #[.slice ak key.length ck] 29)).cell? ⟨w.heap.size, 0, none⟩ = some (.slice ak key.length ck) := by simp
  have h8' : ¬ (D.length : Int) < 8 := by omega
  have hmm := make36
  have hlt := (Array.getElem?_eq_some_iff.1 hcb).1
  -- the world as the loop begins
  obtain ⟨W2, hW2⟩ : ∃ W2, W2 = ((w.setCell ⟨cb, 2, none⟩ (.map (some (w.heap.size + 1)))).alloc (.cells #[.slice ak key.length ck] 29)).alloc (.map #[] 0) := ⟨_, rfl⟩
  have hset0 : SetOf W2 (w.heap.size + 1) 0 [] := by
    have := SetOf.made ((w.setCell ⟨cb, 2, none⟩ (.map (some (w.heap.size + 1)))).alloc (.cells #[.slice ak key.length ck] 29))
    rw [show ((w.setCell ⟨cb, 2, none⟩ (.map (some (w.heap.size + 1)))).alloc (.cells #[.slice ak key.length ck] 29)).heap.size = w.heap.size + 1 by simp [World.setCell]] at this
    rw [hW2]
    exact this
  have hcb2 : W2.heap[cb]? = some (.cells (ctr P.length (.map (some (w.heap.size + 1)))) 38 (0, 0)) := by
    rw [hW2]; exact at_alloc (at_alloc (ctr_set hcb _) _) _
  have hsz2 : W2.heap.size = w.heap.size + 2 := by rw [hW2]; simp [World.setCell]
  have hgr2 : w.grownBy W2 (some cb) := by
    rw [hW2]
    refine ⟨rfl, rfl, rfl, by simp [World.setCell]; omega, fun k hk hne => ?_⟩
    rw [Below.heap_alloc _ _ _ (by simp [World.setCell]; omega), Below.heap_alloc _ _ _ (by simp [World.setCell]; omega), Below.heap_setCell _ _ _ _ (by show k ≠ cb; intro e; exact hne (by rw [e]))]
  have hp2 : W2.cell? ⟨w.heap.size, 0, none⟩ = some (.slice ak key.length ck) := by
    have : W2.heap[w.heap.size]? = some (.cells #[.slice ak key.length ck] 29) := by
      rw [hW2]
      refine at_alloc ?_ _
      have := heap_alloc_new (w.setCell ⟨cb, 2, none⟩ (.map (some (w.heap.size + 1)))) (.cells #[.slice ak key.length ck] 29)
      rw [show (w.setCell ⟨cb, 2, none⟩ (.map (some (w.heap.size + 1)))).heap.size = w.heap.size by simp [World.setCell]] at this
      exact this
    simp [World.cell?, this]
  have HW2 : Hid (W2 = ((w.setCell ⟨cb, 2, none⟩ (.map (some (w.heap.size + 1)))).alloc (.cells #[.slice ak key.length ck] 29)).alloc (.map #[] 0)) := hW2
  -- whatever world keeps all but the set and the container
  have hkw : ∀ wr, W2.grownBy wr (some (w.heap.size + 1)) → Kept w wr := fun wr hg => Kept.of_but hcb (fun b hb hne => (hg.block b (by omega) (by simp; omega)).trans (hgr2.block b hb (by simpa using hne)))
  clear hW2
  go_enter Try.func20, Try.ntmps20
  go_wp2_with (go_at_call 23; refine (contains_walk D key _ ak _ ck _ _ hl1 hk1 hp).mono ?_; rintro e w1 ⟨rfl, hw1⟩; subst hw1)
  go_loopg [39] D.length (fun g i wr => ∃ k : Nat, k + g = D.length ∧ i = .int .i64 k ∧ SetOf wr (w.heap.size + 1) k (D.take k) ∧ W2.grownBy wr (some (w.heap.size + 1)))
  case atStart =>
    refine ⟨0, by omega, rfl, ?_, ?_⟩
    · rw [← HW2.out]; exact hset0
    · rw [← HW2.out]; exact World.grownBy.refl _ _
  case round =>
    obtain ⟨k, hkg, rfl, hs, hg⟩ := hrel
    clear hset0 hl1 hk1 hp g1 g2 g3 k1 k2 k3 hb0 hb00 hkp HW2
    have hcbr : wr.heap[cb]? = some (.cells (ctr P.length (.map (some (w.heap.size + 1)))) 38 (0, 0)) := (hg.block cb (by omega) (by simp; omega)).trans hcb2
    obtain ⟨g1, g2, g3⟩ := ctr_cells hcbr
    by_cases hlt' : k < D.length
    · obtain ⟨b', o', hcu, a', c', hcell, hbs⟩ := ((hl wr (hkw wr hg)).drop hc).at hlt'
      rw [HC.out] at hcu
      cases hcu
      have hxl := hDl k hlt'
      obtain ⟨xs, hxs⟩ : ∃ xs, xs = D.getD k [] := ⟨_, rfl⟩
      rw [← hxs] at hcell hbs hxl
      have HX : Hid (xs = D.getD k []) := hxs
      have HK : Hid (k + gk = D.length) := hkg
      have hst := run_str (w := wr.drew) hbs c'
      have hs' : SetOf wr.drew (w.heap.size + 1) k (D.take k) := hs
      obtain ⟨w2, hup, hset2, hg2⟩ := hs'.update (by omega) hxl
      have HG : Hid (wr.grownBy w2 (some (w.heap.size + 1))) := ⟨hg2.os, hg2.tape, hg2.output, hg2.size, hg2.block⟩
      clear hl hk hg2 hs' hs hxs hkg hbs hcut hhead hmm hDl hmn hp2
      go_wp2
      go_region
      all_goals
        go_wp2
        have hkg := HK.out
        go_roundg (gk - 1)
        case rel =>
          refine ⟨k + 1, by omega, by go_num, ?_, ?_⟩
          · rw [List.take_succ_eq_append_getElem hlt', show D[k] = xs by rw [HX.out]; simp [List.getD, List.getElem?_eq_getElem hlt']]
            exact hset2
          · exact hg.trans HG.out
        case measure => omega
    · have hkD : k = D.length := by omega
      subst hkD
      rw [List.take_length] at hs
      have hbk := hk wr (hkw wr hg)
      have hpw : wr.cell? ⟨w.heap.size, 0, none⟩ = some (.slice ak key.length ck) := (World.cell?_of_block (hg.block w.heap.size (by omega) (by simp))).trans hp2
      have hs1 : SetOf wr.drew (w.heap.size + 1) D.length D := hs
      have hlk := hs1.lookup hkl
      rw [hd] at hlk
      have hs2 : SetOf wr.drew.drew (w.heap.size + 1) D.length D := hs1
      obtain ⟨w2, hup, hset2, hg2⟩ := hs2.update (by omega) hkl
      have hst := run_str (w := wr.drew) hbk ck
      have hst2 := run_str (w := wr.drew.drew) hbk ck
      have HG : Hid (w.grownBy w2 (some cb)) := by
        refine ⟨hg2.os.trans (hg.os.trans hgr2.os), hg2.tape.trans (hg.tape.trans hgr2.tape), hg2.output.trans (hg.output.trans hgr2.output), Nat.le_trans hgr2.size (Nat.le_trans hg.size hg2.size), fun b hb hne => ?_⟩
        have e1 := hgr2.block b hb hne
        have e2 := hg.block b (by omega) (by simp; omega)
        have e3 := hg2.block b (by have := hg.size; simp; omega) (by simp; omega)
        exact e3.trans (e2.trans e1)
      have HB : Hid (w2.heap[cb]? = some (.cells (ctr P.length (.map (some (w.heap.size + 1)))) 38 (0, 0))) := (hg2.block cb (by have := hg.size; simp; omega) (by simp; omega)).trans hcbr
      clear hl hk hg2 hs1 hs2 hs hbk hcut hmm hDl hmn hp2
      go_wp2
      go_region
      all_goals
        go_wp2
        go_region
        all_goals (go_wp2; go_ret2; exact ⟨_, _, rfl, HB.out, hset2, by omega, by omega, HG.out⟩)
end Go.Proofs.Qxb6601109a
