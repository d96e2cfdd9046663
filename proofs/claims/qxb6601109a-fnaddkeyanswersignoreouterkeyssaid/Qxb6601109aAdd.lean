import Derived.Test.Qxb6601109aSet
import Derived.Maps.AppendAt
namespace Go.Proofs.Qxb6601109a
open Go.RowKit Go.Maps

/-- The container's six cells. -/
def ctr (f : Int) (sv : Value) : Array Value := #[.bool true, .int .i64 f, sv, .slice none 0 0, .bool true, .int .i64 0]

theorem ctr_cells {w : World} {cb : Nat} {f : Int} {sv : Value} (h : w.heap[cb]? = some (.cells (ctr f sv) 38 (0, 0))) :
    w.cell? ⟨cb, 1, none⟩ = some (.int .i64 f) ∧ w.cell? ⟨cb, 2, none⟩ = some sv ∧ w.frozen? ⟨cb, 2, none⟩ = false := by
  simp [World.cell?, World.frozen?, h, ctr]
theorem at_alloc {w : World} {b : Nat} {x : Obj} (h : w.heap[b]? = some x) (o : Obj) : (w.alloc o).heap[b]? = some x := by
  rw [Below.heap_alloc w o b (Array.getElem?_eq_some_iff.1 h).1]; exact h

/-- keys[first:] -/
def cutAt (a : Option Addr) (f cap : Nat) : Option Addr := if cap = f then a else a.map (·.add f)
theorem size29 : (Try.prog.info? 29).map (·.size) = some 1 := by kernel_rfl
theorem run_cut (a : Option Addr) (n m f cap : Nat) (h : f + m = n) (hc : n ≤ cap) (w : World) :
    (Instr.slice 22 (.slice a n cap) (some (.int .i64 (f : Int))) none none).run Try.prog w = .ok (.slice (cutAt a f cap) m (cap - f)) w := by
  subst h
  have hi := Try.info29
  obtain ⟨i0, hi, hz0, hz1, hz2⟩ := info_parts hi
  simp [Instr.slice, run_underlying Try.underlying22, Instr.sliceBounds, Instr.sliceBound, asIntOf, sizeOf, typeInfo, hi, hz1, cutAt]
theorem run_head (a : Option Addr) (n f cap : Nat) (h : f ≤ cap) (w : World) :
    (Instr.slice 22 (.slice a n cap) none (some (.int .i64 (f : Int))) none).run Try.prog w = .ok (.slice a f cap) w := by
  obtain ⟨i0, hi, hz0, hz1, hz2⟩ := info_parts Try.info29
  cases a <;> (simp [Instr.slice, run_underlying Try.underlying22, Instr.sliceBounds, Instr.sliceBound, asIntOf, sizeOf, typeInfo, hi, Addr.add]; intro; omega)
theorem LS.drop {w : World} {a : Option Addr} {P D : List (List UInt8)} {cap : Nat} (h : LS w a (P ++ D)) (hc : P.length + D.length ≤ cap) : LS w (cutAt a P.length cap) D := by
  refine ⟨by have := h.1; simp at this; omega, ?_⟩
  by_cases hD : D = []
  · exact .inl hD
  have hpos : 0 < D.length := List.length_pos_iff.2 hD
  rcases h.2 with h | ⟨b, o, rfl, hh⟩
  · simp at h; exact .inl h.2
  · refine .inr ⟨b, o + P.length, ?_, fun i hi => ?_⟩
    · rw [cutAt, if_neg (by omega)]; simp [add_plain]
    · obtain ⟨v, hv, he⟩ := hh (P.length + i) (by simp; omega)
      refine ⟨v, by rw [Nat.add_assoc]; exact hv, ?_⟩
      simpa [List.getD, List.getElem?_append_right] using he

set_option maxHeartbeats 400000 in
/-- No set yet; the key is among the object's own: nothing turns. -/
theorem addKey_dup (cb : Nat) (P D : List (List UInt8)) (key : List UInt8) (a ak : Option Addr) (cap ck : Nat) (w : World)
    (hcb : w.heap[cb]? = some (.cells (ctr P.length (.map none)) 38 (0, 0))) (hl : LS w a (P ++ D)) (hc : P.length + D.length ≤ cap) (hk : BS w ak key) (hin : key ∈ D) :
    Calls Try.prog 20 #[.pointer (some ⟨cb, 0, none⟩), .slice ak key.length ck, .slice a (P.length + D.length) cap] w fun e w' =>
      e = .returned (.tuple #[.slice a (P.length + D.length) cap, .bool true]) ∧ w' = w.alloc (.cells #[.slice ak key.length ck] 29) := by
  have hmn := fun w r => run_eql_map_nil (P := Try.prog) w 36 9 4 r Try.underlying36
  have hcut := run_cut a (P.length + D.length) D.length P.length cap rfl hc
  have hb0 := at_alloc hcb (.cells #[.slice ak key.length ck] 29)
  obtain ⟨g1, g2, g3⟩ := ctr_cells hb0
  have hbel : Below w.heap.size w (w.alloc (.cells #[.slice ak key.length ck] 29)) := (Below.refl _ _).alloc (Nat.le_refl _) _
  have hl1 := (hl.below hbel).drop hc
  have hk1 := hk.below hbel
  have hd : decide (key ∈ D) = true := by simp [hin]
  have hp : (w.alloc (.cells #[.slice ak key.length ck] 29)).cell? ⟨w.heap.size, 0, none⟩ = some (.slice ak key.length ck) := by simp
  clear hb0 hl hk hbel hcb hin
  go_enter Try.func20, Try.ntmps20
  go_wp2_with (go_at_call 23; refine (contains_walk D key _ ak _ ck _ _ hl1 hk1 hp).mono ?_; rintro e w1 ⟨rfl, hw1⟩; subst hw1)
  go_ret2
  exact ⟨rfl, rfl⟩

theorem slice_one (v : Value) : ([v] : List Value).length = 1 * 1 := rfl

set_option maxHeartbeats 400000 in
/-- No set yet; the key is new and there are fewer than eight: it is appended. -/
theorem addKey_app (cb base : Nat) (P D : List (List UInt8)) (key : List UInt8) (a ak : Option Addr) (cap ck : Nat) (vals : List Value) (w : World)
    (hcb : w.heap[cb]? = some (.cells (ctr P.length (.map none)) 38 (0, 0))) (hl : LS w a (P ++ D)) (hc : P.length + D.length ≤ cap) (hk : BS w ak key) (hnin : key ∉ D) (h8 : D.length < 8) (hP : P.length ≤ 4096)
    (hown : w.ownsRow base 29 1 (.slice a (P.length + D.length) cap) (P.length + D.length) vals) (hbase : base ≤ w.heap.size) :
    Calls Try.prog 20 #[.pointer (some ⟨cb, 0, none⟩), .slice ak key.length ck, .slice a (P.length + D.length) cap] w fun e w' =>
      ∃ v', e = .returned (.tuple #[v', .bool false]) ∧ w'.ownsRow base 29 1 v' (P.length + D.length + 1) (vals ++ [.slice ak key.length ck]) ∧ w.grownBy w' (Value.ownBlock (.slice a (P.length + D.length) cap)) ∧
        (v'.ownBlock = Value.ownBlock (.slice a (P.length + D.length) cap) ∨ ∃ g, v'.ownBlock = some g ∧ w.heap.size ≤ g) := by
  have hmn := fun w r => run_eql_map_nil (P := Try.prog) w 36 9 4 r Try.underlying36
  have hcut := run_cut a (P.length + D.length) D.length P.length cap rfl hc
  have hb0 := at_alloc hcb (.cells #[.slice ak key.length ck] 29)
  obtain ⟨g1, g2, g3⟩ := ctr_cells hb0
  have hbel : Below w.heap.size w (w.alloc (.cells #[.slice ak key.length ck] 29)) := (Below.refl _ _).alloc (Nat.le_refl _) _
  have hl1 := (hl.below hbel).drop hc
  have hk1 := hk.below hbel
  have hd : decide (key ∈ D) = false := by simp [hnin]
  have hp : (w.alloc (.cells #[.slice ak key.length ck] 29)).cell? ⟨w.heap.size, 0, none⟩ = some (.slice ak key.length ck) := by simp
  obtain ⟨i0, hi, hz0, hz1, hz2⟩ := info_parts Try.info29
  have h8' : (D.length : Int) < 8 := by omega
  have hown2 := (hown.alloc (.cells #[.slice ak key.length ck] 29)).alloc (.cells #[.slice ak key.length ck] 29)
  clear hb0 hl hk hbel hcb hnin
  go_enter Try.func20, Try.ntmps20
  go_wp2_with (first | (go_at_call 23; refine (contains_walk D key _ ak _ ck _ _ hl1 hk1 hp).mono ?_; rintro e w1 ⟨rfl, hw1⟩; subst hw1) | (at_builtin; refine wpList_append_own_at _ rfl (.tmp 29) (.tmp 31) 22 rfl base 29 i0 (.slice none 0 0) 1 24 Try.underlying22 hi hz0 hz1 hz2 rfl (by decide) _ _ _ rfl hown2 ⟨w.heap.size + 1, 0, none⟩ 1 1 [.slice ak key.length ck] rfl rfl ?_ ?_ ?_ ?_ ?_ ?_))
  · intro j u hj
    match j, hj with
    | 0, hj => simp at hj; subst hj; simp [Addr.add]
  · intro u hu; simp at hu; subst hu; rfl
  · unfold maxLen; omega
  · omega
  · simp; omega
  · intro v' w' hown' hgrow hnn hloc
    clear hcut g1 g2 g3 hl1 hk1 hd hp hown2 hmn
    go_wp2
    go_ret2
    refine ⟨v', rfl, hown', ((World.grownBy_alloc w _ _).trans (World.grownBy_alloc _ _ _)).trans hgrow, ?_⟩
    rcases hloc with h | h
    · exact .inl h
    · exact .inr ⟨_, h, by omega⟩
/-- Every row of cells that is no container is kept. -/
def Kept (w w' : World) : Prop := ∀ (b : Nat) (c : Array Value) (t : TypeId), t ≠ 38 → w.heap[b]? = some (Obj.cells c t (0, 0)) → w'.heap[b]? = some (.cells c t (0, 0))
theorem Kept.refl (w : World) : Kept w w := fun _ _ _ _ h => h
theorem Kept.trans {w w' w'' : World} (h : Kept w w') (k : Kept w' w'') : Kept w w'' := fun b c t ht hb => k b c t ht (h b c t ht hb)
theorem Kept.alloc {w w' : World} (h : Kept w w') (o : Obj) : Kept w (w'.alloc o) := fun b c t ht hb => at_alloc (h b c t ht hb) o
theorem Kept.drew {w w' : World} (h : Kept w w') : Kept w w'.drew := h
theorem Kept.setCell {w w' : World} (h : Kept w w') {cb o : Nat} {c : Array Value} {fz : Nat × Nat} (hc : w'.heap[cb]? = some (.cells c 38 fz)) (v : Value) : Kept w (w'.setCell ⟨cb, o, none⟩ v) := by
  intro b c' t ht hb
  have h1 := h b c' t ht hb
  have hne : b ≠ cb := by
    rintro rfl
    rw [h1] at hc
    injection hc with hc
    injection hc with _ h2 _
    exact ht h2
  exact (Below.heap_setCell _ _ _ _ hne).trans h1
theorem Kept.grown {w w' w'' : World} (h : Kept w w') {mb n : Nat} {D : List (List UInt8)} (hs : SetOf w' mb n D) (hg : w'.grownBy w'' (some mb)) : Kept w w'' := by
  intro b c' t ht hb
  have h1 := h b c' t ht hb
  have hne := hs.notCells h1
  exact (hg.block b (Array.getElem?_eq_some_iff.1 h1).1 (fun e => hne (by injection e with e; exact e.symm))).trans h1

theorem ctr_set {w : World} {cb : Nat} {f : Int} {sv : Value} (h : w.heap[cb]? = some (.cells (ctr f sv) 38 (0, 0))) (v : Value) :
    (w.setCell ⟨cb, 2, none⟩ v).heap[cb]? = some (.cells (ctr f v) 38 (0, 0)) := by
  simp [World.setCell, Array.getElem?_modify, h, ctr]

set_option maxHeartbeats 400000 in
/-- The set is there, the key in it: nothing turns. -/
theorem addKey_in (cb mb n : Nat) (f : Int) (D : List (List UInt8)) (key : List UInt8) (ak : Option Addr) (ck : Nat) (a : Option Addr) (l cap : Nat) (w : World)
    (hcb : w.heap[cb]? = some (.cells (ctr f (.map (some mb))) 38 (0, 0))) (hset : SetOf w mb n D) (hkl : key.length ≤ 1048576) (hk : BS w ak key) (hin : key ∈ D) :
    Calls Try.prog 20 #[.pointer (some ⟨cb, 0, none⟩), .slice ak key.length ck, .slice a l cap] w fun e w' =>
      e = .returned (.tuple #[.slice a l cap, .bool true]) ∧ Below w.heap.size w w' := by
  have hmn := fun w r => run_eql_map_nil (P := Try.prog) w 36 9 4 r Try.underlying36
  have hb0 := at_alloc hcb (.cells #[.slice ak key.length ck] 29)
  obtain ⟨g1, g2, g3⟩ := ctr_cells hb0
  have hbel : Below w.heap.size w (w.alloc (.cells #[.slice ak key.length ck] 29)) := (Below.refl _ _).alloc (Nat.le_refl _) _
  have hk1 := hk.below hbel
  have hp : (w.alloc (.cells #[.slice ak key.length ck] 29)).cell? ⟨w.heap.size, 0, none⟩ = some (.slice ak key.length ck) := by simp
  have hs1 : SetOf (w.alloc (.cells #[.slice ak key.length ck] 29)).drew mb n D := hset.kept (Below.heap_alloc _ _ _ hset.lt)
  have hlk := hs1.lookup hkl
  have hst := run_str (w := (w.alloc (.cells #[.slice ak key.length ck] 29)).drew) hk1 ck
  have hd : decide (key ∈ D) = true := by simp [hin]
  rw [hd] at hlk
  clear hb0 hk hbel hcb hin hs1 hset hk1 hd
  go_enter Try.func20, Try.ntmps20
  go_wp2
  go_region
  all_goals (go_wp2; go_ret2; exact ⟨rfl, ((Below.refl _ _).alloc (Nat.le_refl _) _).drew⟩)
set_option maxHeartbeats 400000 in
/-- The set is there, the key not in it: it is put in. -/
theorem addKey_put (cb mb n : Nat) (f : Int) (D : List (List UInt8)) (key : List UInt8) (ak : Option Addr) (ck : Nat) (a : Option Addr) (l cap : Nat) (w : World)
    (hcb : w.heap[cb]? = some (.cells (ctr f (.map (some mb))) 38 (0, 0))) (hset : SetOf w mb n D) (hn : n ≤ 1048576) (hkl : key.length ≤ 1048576) (hk : BS w ak key) (hin : key ∉ D) :
    Calls Try.prog 20 #[.pointer (some ⟨cb, 0, none⟩), .slice ak key.length ck, .slice a l cap] w fun e w' =>
      e = .returned (.tuple #[.slice a l cap, .bool false]) ∧ SetOf w' mb (n + 1) (D ++ [key]) ∧ w.grownBy w' (some mb) := by
  have hmn := fun w r => run_eql_map_nil (P := Try.prog) w 36 9 4 r Try.underlying36
  have hb0 := at_alloc hcb (.cells #[.slice ak key.length ck] 29)
  obtain ⟨g1, g2, g3⟩ := ctr_cells hb0
  have hbel : Below w.heap.size w (w.alloc (.cells #[.slice ak key.length ck] 29)) := (Below.refl _ _).alloc (Nat.le_refl _) _
  have hk1 := hk.below hbel
  have hp : (w.alloc (.cells #[.slice ak key.length ck] 29)).cell? ⟨w.heap.size, 0, none⟩ = some (.slice ak key.length ck) := by simp
  have hs1 : SetOf (w.alloc (.cells #[.slice ak key.length ck] 29)).drew mb n D := hset.kept (Below.heap_alloc _ _ _ hset.lt)
  have hlk := hs1.lookup hkl
  have hs2 : SetOf (w.alloc (.cells #[.slice ak key.length ck] 29)).drew.drew mb n D := hs1
  obtain ⟨w2, hup, hset2, hg2⟩ := hs2.update hn hkl
  have hst := run_str (w := (w.alloc (.cells #[.slice ak key.length ck] 29)).drew) hk1 ck
  have hst2 := run_str (w := (w.alloc (.cells #[.slice ak key.length ck] 29)).drew.drew) hk1 ck
  have hd : decide (key ∈ D) = false := by simp [hin]
  rw [hd] at hlk
  have HG : Hid (w.grownBy w2 (some mb)) := by
    refine ⟨hg2.os, hg2.tape, hg2.output, Nat.le_trans (by simp) hg2.size, fun k hk hne => (hg2.block k (by simp; omega) hne).trans (Below.heap_alloc _ _ _ hk)⟩
  clear hb0 hk hbel hcb hin hs1 hset hk1 hd hs2 hg2
  go_enter Try.func20, Try.ntmps20
  go_wp2
  go_region
  all_goals
    go_wp2
    go_region
    all_goals (go_wp2; go_ret2; exact ⟨rfl, hset2, HG.out⟩)
end Go.Proofs.Qxb6601109a
