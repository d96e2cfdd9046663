import Derived.Test.Qxb6604795aApp
import Derived.Deep.RegionLaw
namespace Go.Proofs.Qxb6604795a
open Go.RowKit Go.Maps

theorem wpList_update37 {H : Type} (w : World) {ops : Array Oper} {rest : List Oper} {o : Oper} {a : Act} {Q : Exit → Act → World → Prop} (hg : o.guard = none) (mo x v : Operand) (hop : o.op = Op.mapUpdate 37 mo x v)
    (m n sz : Nat) (f : ByteArray → Option Int) (s : ByteArray) (k : Int) (hm : a.eval mo = .map (some m)) (hx : a.eval x = .string s) (hv : a.eval v = .int .i64 k) (h : IMap H w m n sz f) (hn : n ≤ 1048576) (hs : s.size ≤ 9223372036854775807) (hk : (Lit.int .i64 k).wf = true)
    (hK : ∀ w', IMap H w' m (n + 1) (if (f s).isSome then sz else sz + 1) (fun t => if t = s then some k else f t) → w.grownBy w' (some m) → wpList Try.prog ops Q rest (a.put o.dst undef) w') :
    wpList Try.prog ops Q (o :: rest) a w := by
  refine wpList_plain hg fun K' hK' => ?_
  obtain ⟨w', hrun, r1, r2⟩ := h.update hn hs hk
  unfold Oper.wp
  simp [execOp, hop, hm, hx, hv, hrun, Result.andThen]
  exact hK' _ _ (hK w' r1 r2)

/-- One element more behind a slice that has no room: as one step of a region that draws. -/
theorem step_append_one {P : Program} {ops : Array Oper} {o : Oper} {a : Act} {w : World} {K : Act → World → Prop} {Q : Exit → Act → World → Prop} {E : Prop}
    (hg0 : o.guard = none) (sx x : Operand) (t : TypeId) (hop : o.op = Op.call { callee := Callee.builtin Builtin.append, args := #[sx, x], argTypes := #[t, t] })
    (e : TypeId) (i : TypeInfo) (z : Value) (size bytes : Nat) (ht : P.underlying t = some (.slice e)) (hi : P.info? e = some i) (hz : i.zero = some z) (hsize : i.size = size) (hby : i.bytes = bytes) (hsz : 0 < size)
    (A : Option Addr) (n lo : Nat) (f : Nat → Value) (hs : a.eval sx = .slice A n n) (h : CS lo w A (n * size) f) (s : Nat) (g : Nat → Value) (hx : a.eval x = .slice (some ⟨s, 0, none⟩) 1 1) (hg : ∀ j, j < size → w.cell? ⟨s, j, none⟩ = some (g j))
    (hn : (n + 1) * bytes ≤ 140737488355328) (h63 : (n + 1) * size ≤ 9223372036854775807)
    (hK : ∀ c' w', CS w.heap.size w' (some ⟨w.heap.size, 0, none⟩) ((n + 1) * size) (fun j => if j < n * size then f j else g (j - n * size)) → Below w.heap.size w w' →
      K (a.put o.dst (.slice (some ⟨w.heap.size, 0, none⟩) (n + 1) c')) w') :
    if Region.wanted o (yielded ops a.tmps) = true then Oper.wp P o a w K Q else E := by
  have hw : Region.wanted o (yielded ops a.tmps) = true := by simp [Region.wanted, hg0]
  rw [if_pos hw]
  obtain ⟨c', w', hrun, r1, r2⟩ := run_append_one (P := P) w t o.type e i z size bytes ht hi hz hsize hby hsz A n lo f h s g hg hn h63
  unfold Oper.wp
  simp [execOp, hop, resolve, invoke, builtin, hs, hx, hrun, Result.andThen]
  exact hK c' w' r1 r2

/-- The list's own cells. -/
structure LCells (w : World) (lb : Nat) (kind : ByteArray) (ents : Value) (m : Nat) (left : Int) : Prop where
  c0 : w.cell? ⟨lb, 0, none⟩ = some (.string kind)
  c1 : w.cell? ⟨lb, 1, none⟩ = some ents
  c2 : w.cell? ⟨lb, 2, none⟩ = some (.map (some m))
  c3 : w.cell? ⟨lb, 3, none⟩ = some (.int .i64 left)

/-- What was read outside the block lb reads so still. -/
def KeepsBut (w w' : World) (p : Nat → Prop) : Prop := ∀ a v, ¬ p a.block → w.cell? a = some v → w'.cell? a = some v

theorem Try.info63 : (Try.prog.info? 63).map (fun i => (i.zero, i.size, i.bytes)) = some (some (.agg #[.string ByteArray.empty, .slice none 0 0, .int .i64 0]), 3, 48) := by kernel_rfl

/-- The three cells of an entry. -/
def ent (a b c : Value) : Nat → Value
  | 0 => a
  | 1 => b
  | _ => c

def AddNew (w : World) (lb m n nn : Nat) (kind name about : ByteArray) (left : Int) (E : Nat → Value) (F : ByteArray → Option Int) (B : Nat) (e : Ending) (w' : World) : Prop :=
  e = .returned (.bool true) ∧ ∃ (eb c : Nat) (A1 : Option Addr) (L1 : Nat), LCells w' lb kind (.slice (some ⟨eb, 0, none⟩) (n + 1) c) m left ∧ CS 0 w' (some ⟨eb, 0, none⟩) ((n + 1) * 3) (fun j => if j < n * 3 then E j else ent (.string name) (.slice A1 L1 L1) (.int .i64 0) (j - n * 3)) ∧
    SS 0 w' A1 L1 (fun _ => about) ∧ ((about = ByteArray.empty ∧ L1 = 0) ∨ (about ≠ ByteArray.empty ∧ L1 = 1)) ∧ IMap Unit w' m (nn + 1) (n + 1) (fun t => if t = name then some (n : Int) else F t) ∧ KeepsBut w w' (· = lb) ∧ Below B w w'

theorem grown_below {w w' : World} {m B : Nat} (h : w.grownBy w' (some m)) (hB : B ≤ m) (hw : B ≤ w.heap.size) : Below B w w' :=
  ⟨h.os, h.tape, h.output, h.size, fun x hx => h.block x (by omega) (by simp; omega)⟩

theorem empty_list : ByteArray.empty.toList = [] := by rw [ByteArray.toList_eq]; rfl

/-- The new element is laid down, the list is stored. -/
theorem add_tail {w W7 w9 : World} {lb m n nn B c9 : Nat} {kind name about : ByteArray} {left : Int} {E : Nat → Value} {F : ByteArray → Option Int} {A1 : Option Addr} {L1 : Nat} {o : Obj}
    (k7 : Keeps w W7) (b7 : Below B w W7) (hB1 : B ≤ lb) (hlt : lb < W7.heap.size) (d0 : W7.cell? ⟨lb, 0, none⟩ = some (.string kind)) (d1 : ∃ v, W7.cell? ⟨lb, 1, none⟩ = some v) (d2 : W7.cell? ⟨lb, 2, none⟩ = some (.map (some m))) (d3 : W7.cell? ⟨lb, 3, none⟩ = some (.int .i64 left))
    (him : IMap Unit W7 m (nn + 1) (n + 1) (fun t => if t = name then some (n : Int) else F t)) (hA : SS 0 W7 A1 L1 (fun _ => about)) (hA2 : ∀ p v, A1 = some p → L1 ≠ 0 → W7.cell? p = some v → p.block ≠ lb) (hL : (about = ByteArray.empty ∧ L1 = 0) ∨ (about ≠ ByteArray.empty ∧ L1 = 1))
    (h9 : CS (W7.alloc o).drew.heap.size w9 (some ⟨(W7.alloc o).drew.heap.size, 0, none⟩) ((n + 1) * 3) (fun j => if j < n * 3 then E j else ent (.string name) (.slice A1 L1 L1) (.int .i64 0) (j - n * 3))) (b9 : Below (W7.alloc o).drew.heap.size (W7.alloc o).drew w9) :
    AddNew w lb m n nn kind name about left E F B (.returned (.bool true)) (w9.setCell ⟨lb, 1, none⟩ (.slice (some ⟨(W7.alloc o).drew.heap.size, 0, none⟩) (n + 1) c9)) := by
  have b79 : Below W7.heap.size W7 w9 := by
    have h1 : Below W7.heap.size W7 (W7.alloc o).drew := ⟨rfl, rfl, rfl, by simp, fun k hk => Below.heap_alloc W7 o k hk⟩
    exact h1.trans (b9.mono h1.size)
  have k79 := Keeps.below b79
  have hsz : (W7.alloc o).drew.heap.size = W7.heap.size + 1 := by simp
  obtain ⟨v1, hv1⟩ := d1
  have hns : ∀ (p : Addr) (v u : Value), p.block ≠ lb → w9.cell? p = some v → (w9.setCell ⟨lb, 1, none⟩ u).cell? p = some v := fun p v u hp h => (cell_setCell_other (a := ⟨lb, 1, none⟩) hp).trans h
  have hoff : ∀ (k : Nat) (v u : Value), k ≠ 1 → w9.cell? ⟨lb, k, none⟩ = some v → (w9.setCell ⟨lb, 1, none⟩ u).cell? ⟨lb, k, none⟩ = some v := fun k v u hk h => by
    rw [World.cell?_setCell_other _ _ _ _ (by intro e; injection e with _ e; exact hk e.symm)]
    exact h
  refine ⟨rfl, (W7.alloc o).drew.heap.size, c9, A1, L1, ⟨hoff 0 _ _ (by decide) (k79 _ _ d0), ?_, hoff 2 _ _ (by decide) (k79 _ _ d2), hoff 3 _ _ (by decide) (k79 _ _ d3)⟩, ?_, ?_, hL, ?_, ?_, ?_⟩
  · exact World.cell?_setCell_same _ _ _ (k79 _ _ hv1)
  · refine ⟨h9.1, .inr ⟨_, 0, rfl, Nat.zero_le _, fun i hi => ?_⟩⟩
    rcases h9.2 with h | ⟨b, o', e, _, hc⟩
    · omega
    · cases e
      refine hns _ _ _ ?_ (hc i hi)
      show (W7.alloc o).drew.heap.size ≠ lb
      omega
  · refine ⟨hA.1, hA.2.imp id ?_⟩
    rintro ⟨b, o', e, _, hc⟩
    refine ⟨b, o', e, Nat.zero_le _, fun i hi => hns _ _ _ ?_ (k79 _ _ (hc i hi))⟩
    have h1 : L1 = 1 := by rcases hL with ⟨_, h⟩ | ⟨_, h⟩ <;> omega
    have h2 := hc 0 (by omega)
    exact hA2 ⟨b, o', none⟩ _ e (by omega) h2
  · refine him.kept ?_
    have hne : lb ≠ m := IMap.notCell him d0
    rw [Below.heap_setCell _ _ _ _ (fun h => hne h.symm)]
    exact b79.block m him.lt
  · intro p v hp h
    exact hns p v _ hp (k79 _ _ (k7 _ _ h))
  · exact (b7.trans (b79.mono (Nat.le_trans (by first | exact b7.size | omega) (Nat.le_refl _)))).setCell hB1 _

set_option maxRecDepth 100000 in
set_option maxHeartbeats 1000000 in
theorem add_new (w : World) (lb eb m n nn : Nat) (kind name about : ByteArray) (left : Int) (E : Nat → Value) (F : ByteArray → Option Int) (B : Nat) (hL : LCells w lb kind (.slice (some ⟨eb, 0, none⟩) n n) m left) (hlf : ∀ o, w.frozen? ⟨lb, o, none⟩ = false)
    (hE : CS 0 w (some ⟨eb, 0, none⟩) (n * 3) E) (him : IMap Unit w m nn n F) (hnn : nn ≤ 1048576) (hn : n ≤ 65537) (hnm : name.size ≤ 1048576) (hF : F name = none) (hB1 : B ≤ lb) (hB2 : B ≤ m) (hB3 : B ≤ w.heap.size) :
    Calls Try.prog 35 #[.pointer (some ⟨lb, 0, none⟩), .string name, .string about] w (AddNew w lb m n nn kind name about left E F B) := by
  have hlk := him.look (s := name) (by omega)
  rw [hF] at hlk
  simp only [Option.getD_none, Option.isSome_none] at hlk
  obtain ⟨c0, c1, c2, c3⟩ := hL
  have hltm := him.lt
  obtain ⟨i0, hi, hz0, hz1, hz2⟩ := info_parts Try.info63
  obtain ⟨w1, hrun, him1, hg1⟩ := IMap.update (H := Unit) (w := w.drew) (m := m) (n := nn) (sz := n) (f := F) him hnn (s := name) (by omega) (k := (n : Int)) (WalkArith.wf_i64 (by omega))
  rw [hF] at him1
  simp only [Option.isSome_none, Bool.false_eq_true, if_false] at him1
  have hk1 : Keeps w w1 := IMap.keeps (H := Unit) (w := w.drew) (n := nn) (sz := n) (f := F) him hg1
  have hb1 : Below B w w1 := by
    have := grown_below (w := w.drew) hg1 hB2 hB3
    exact ⟨this.os, this.tape, this.output, this.size, this.block⟩
  have d0 := hk1 _ _ c0
  have d1 := hk1 _ _ c1
  have d2 := hk1 _ _ c2
  have d3 := hk1 _ _ c3
  have hne : lb ≠ m := IMap.notCell him c0
  have dlf : ∀ o, w1.frozen? ⟨lb, o, none⟩ = false := fun o => by
    have e : w1.heap[lb]? = w.heap[lb]? := hg1.block lb (World.block_lt_of_cell? _ _ c0) (by simpa using hne)
    rw [← hlf o, World.frozen?, World.frozen?, e]
  have hlt1 : lb < w1.heap.size := World.block_lt_of_cell? _ _ d0
  have hE1 : CS 0 w1 (some ⟨eb, 0, none⟩) (n * 3) E := hE.keeps hk1
  have HK1 : Hid (Keeps w w1) := hk1
  have HB1 : Hid (Below B w w1) := hb1
  have HIM : Hid (IMap Unit w1 m (nn + 1) (n + 1) (fun t => if t = name then some (n : Int) else F t)) := him1
  clear him him1 hg1 hk1 hb1 hE hF hlf
  rcases Decidable.em (about = ByteArray.empty) with hab | hab
  case' inl =>
    have hbb : (about.toList == []) = true := by rw [hab, empty_list]; rfl
    have HAB : Hid (about = ByteArray.empty) := hab
    clear hab
    obtain ⟨A1, hA1⟩ : ∃ A1 : Option Addr, A1 = none := ⟨_, rfl⟩
    obtain ⟨L1, hL1⟩ : ∃ L1, L1 = 0 := ⟨_, rfl⟩
    obtain ⟨W7, hW7⟩ : ∃ W7, W7 = w1.alloc (.cells #[.string name, .slice none 0 0, .int .i64 0] 63) := ⟨_, rfl⟩
    have b7 : Below w1.heap.size w1 W7 := by rw [hW7]; exact (Below.refl _ _).alloc (Nat.le_refl _) _
    have h7 : W7.heap[w1.heap.size]? = some (.cells #[.string name, .slice A1 L1 L1, .int .i64 0] 63 (0, 0)) := by rw [hW7, hA1, hL1]; exact heap_alloc_new w1 _
    have hA : SS 0 W7 A1 L1 (fun _ => about) := ⟨by omega, .inl hL1⟩
    have HA2 : Hid (∀ p v, A1 = some p → L1 ≠ 0 → W7.cell? p = some v → p.block ≠ lb) := fun p v h1 h2 => absurd hL1 h2
    have HL : Hid ((about = ByteArray.empty ∧ L1 = 0) ∨ (about ≠ ByteArray.empty ∧ L1 = 1)) := .inl ⟨HAB.out, hL1⟩
    clear hA1 hL1
    go_enter Try.func35, Try.ntmps35
    go_wp2_with fail
    go_region
    go_wp2_with fail
    show Code.wp _ _ _ _ (w1.alloc (.cells #[.string name, .slice none 0 0, .int .i64 0] 63))
    rw [← hW7]
  case' inr =>
    have hbb : (about.toList == []) = false := by have := beq_lists_ne hab; rw [empty_list] at this; exact this
    have HAB : Hid (about ≠ ByteArray.empty) := hab
    clear hab
    obtain ⟨A1, hA1⟩ : ∃ A1 : Option Addr, A1 = some ⟨w1.heap.size + 1, 0, none⟩ := ⟨_, rfl⟩
    obtain ⟨L1, hL1⟩ : ∃ L1, L1 = 1 := ⟨_, rfl⟩
    obtain ⟨W7, hW7⟩ : ∃ W7, W7 = (w1.alloc (.cells #[.string name, .slice (some ⟨w1.heap.size + 1, 0, none⟩) 1 1, .int .i64 0] 63)).alloc (.cells #[.string about] 9) := ⟨_, rfl⟩
    have b7 : Below w1.heap.size w1 W7 := by rw [hW7]; exact ((Below.refl _ _).alloc (Nat.le_refl _) _).alloc (by simp) _
    have h7 : W7.heap[w1.heap.size]? = some (.cells #[.string name, .slice A1 L1 L1, .int .i64 0] 63 (0, 0)) := by
      rw [hW7, hA1, hL1, Below.heap_alloc _ _ _ (by simp)]; exact heap_alloc_new w1 _
    have hA : SS 0 W7 A1 L1 (fun _ => about) := by
      rw [hA1, hL1]
      refine ⟨by omega, .inr ⟨_, 0, rfl, Nat.zero_le _, fun i hi => ?_⟩⟩
      have h0 : W7.heap[w1.heap.size + 1]? = some (.cells #[.string about] 9 (0, 0)) := by
        rw [hW7]
        have := heap_alloc_new (w1.alloc (.cells #[.string name, .slice (some ⟨w1.heap.size + 1, 0, none⟩) 1 1, .int .i64 0] 63)) (.cells #[.string about] 9)
        simpa using this
      obtain rfl : i = 0 := by omega
      rw [World.cell?]
      simp only [h0]
      rfl
    have HA2 : Hid (∀ p v, A1 = some p → L1 ≠ 0 → W7.cell? p = some v → p.block ≠ lb) := fun p v h1 h2 h3 => by
      rw [hA1] at h1
      cases h1
      show w1.heap.size + 1 ≠ lb
      omega
    have HL : Hid ((about = ByteArray.empty ∧ L1 = 0) ∨ (about ≠ ByteArray.empty ∧ L1 = 1)) := .inr ⟨HAB.out, hL1⟩
    clear hA1 hL1
    go_enter Try.func35, Try.ntmps35
    go_wp2_with fail
    go_region
    go_wp2_with fail
    show Code.wp _ _ _ _ ((w1.alloc (.cells #[.string name, .slice (some ⟨w1.heap.size + 1, 0, none⟩) 1 1, .int .i64 0] 63)).alloc (.cells #[.string about] 9))
    rw [← hW7]
  all_goals
    have k17 := Keeps.below b7
    have f0 : W7.cell? ⟨w1.heap.size, 0, none⟩ = some (.string name) := by rw [World.cell?]; simp only [h7]; rfl
    have f1 : W7.cell? ⟨w1.heap.size, 1, none⟩ = some (.slice A1 L1 L1) := by rw [World.cell?]; simp only [h7]; rfl
    have f2 : W7.cell? ⟨w1.heap.size, 2, none⟩ = some (.int .i64 0) := by rw [World.cell?]; simp only [h7]; rfl
    have g0 := k17 _ _ d0
    have g1 := k17 _ _ d1
    have g2 := k17 _ _ d2
    have g3 := k17 _ _ d3
    have glf : ∀ o, W7.frozen? ⟨lb, o, none⟩ = false := fun o => (b7.frozen (p := ⟨lb, o, none⟩) hlt1).trans (dlf o)
    have hE7 : CS 0 (W7.alloc (.cells #[.string name, .slice A1 L1 L1, .int .i64 0] 63)).drew (some ⟨eb, 0, none⟩) (n * 3) E := (hE1.keeps k17).keeps (Keeps.below (w := W7) ⟨rfl, rfl, rfl, by simp, fun k hk => Below.heap_alloc W7 _ k hk⟩)
    have hsrc : ∀ j, j < 3 → (W7.alloc (.cells #[.string name, .slice A1 L1 L1, .int .i64 0] 63)).drew.cell? ⟨W7.heap.size, j, none⟩ = some (ent (.string name) (.slice A1 L1 L1) (.int .i64 0) j) := by
      intro j hj
      have h0 : (W7.alloc (.cells #[.string name, .slice A1 L1 L1, .int .i64 0] 63)).drew.heap[W7.heap.size]? = some (.cells #[.string name, .slice A1 L1 L1, .int .i64 0] 63 (0, 0)) := heap_alloc_new W7 _
      rw [World.cell?]
      simp only [h0]
      match j, hj with
      | 0, _ => rfl
      | 1, _ => rfl
      | 2, _ => rfl
    have hlt7 : lb < W7.heap.size := Nat.lt_of_lt_of_le hlt1 b7.size
    have hltA : lb < (W7.alloc (.cells #[.string name, .slice A1 L1 L1, .int .i64 0] 63)).drew.heap.size := by simp; omega
    have HK7 : Hid (Keeps w W7) := HK1.out.trans k17
    have HB7 : Hid (Below B w W7) := HB1.out.trans (b7.mono (Nat.le_trans hB3 HB1.out.size))
    have HIM7 : Hid (IMap Unit W7 m (nn + 1) (n + 1) (fun t => if t = name then some (n : Int) else F t)) := HIM.out.kept (b7.block m HIM.out.lt)
    clear hW7 h7 hE1 k17 b7
    go_region_law (refine step_append_one rfl (.tmp 43) (.tmp 45) 61 rfl 63 i0 _ 3 48 Try.underlying61 hi hz0 hz1 hz2 (by omega) (some ⟨eb, 0, none⟩) n 0 E (by simp [Act.eval]) hE7 W7.heap.size _ (by simp [Act.eval]) hsrc (by omega) (by omega) ?_; intro c9 w9 h9 b9; have q1 : w9.cell? ⟨lb, 1, none⟩ = some (.slice (some ⟨eb, 0, none⟩) n n) := (b9.cell (p := ⟨lb, 1, none⟩) hltA).trans ((World.cell?_alloc_lt _ _ _ hlt7).trans g1); have qf : w9.frozen? ⟨lb, 1, none⟩ = false := (b9.frozen (p := ⟨lb, 1, none⟩) hltA).trans (((Below.refl _ _).alloc (Nat.le_refl _) _).frozen (p := ⟨lb, 1, none⟩) hlt7 |>.trans (glf 1)))
    all_goals
      go_wp2_with fail
      go_ret
      have HH := add_tail (c9 := c9) HK7.out HB7.out hB1 hlt7 g0 ⟨_, g1⟩ g2 g3 HIM7.out hA HA2.out HL.out h9 b9
      have hsz : (W7.alloc (.cells #[.string name, .slice A1 L1 L1, .int .i64 0] 63)).drew.heap.size = W7.heap.size + 1 := by simp
      rw [hsz] at HH
      exact HH
end Go.Proofs.Qxb6604795a
