import Derived.Test.Qxb6605270aBytes
import Derived.Deep.RegionWith
import Derived.Laws.MakeOwn
namespace Go.Proofs.Qxb6605270a
open Go.RowKit

/-- The same world but for draws. -/
def Drawn (w w' : World) : Prop := ∃ q, w' = w.drewN q
theorem Drawn.more {w w' : World} (h : Drawn w w') (n : Nat) : Drawn w (w'.drewN n) := by obtain ⟨q, rfl⟩ := h; exact ⟨q + n, World.drewN_drewN _ _ _⟩
theorem Drawn.below {w w' : World} (h : Drawn w w') : Below w.heap.size w w' := by obtain ⟨q, rfl⟩ := h; exact ⟨rfl, rfl, rfl, Nat.le_refl _, fun _ _ => rfl⟩

theorem CallAt.below {w w' : World} {a : Option Addr} {M i : Nat} (h : CallAt w a M i) (hb : Below w.heap.size w w') : CallAt w' a M i := by
  obtain ⟨b, o, he, nm, k, xs, c, h1, h2, h3, h4, h5⟩ := h
  exact ⟨b, o, he, nm, k, xs, c, h1, h2, (hb.cell (p := ⟨b, o + i * 2, none⟩) (World.block_lt_of_cell? _ _ h3)).trans h3, (hb.cell (p := ⟨b, o + i * 2 + 1, none⟩) (World.block_lt_of_cell? _ _ h4)).trans h4, h5.below hb⟩

/-- What the law answers. -/
def Good (w : World) (e : Ending) (w' : World) : Prop := e = .returned (.bool true) ∧ Below w.heap.size w w'

theorem Try.info26 : (Try.prog.info? 26).map (fun i => (i.zero, i.size, i.bytes)) = some (some (.agg #[.string ByteArray.empty, .slice none 0 0]), 2, 40) := by kernel_rfl

theorem run_make26 (n : Nat) (hn : n ≤ 32768) (w : World) : (Instr.makeSlice 23 (.int .i64 (n : Int)) (.int .i64 (n : Int))).run Try.prog w =
    .ok (.slice (some ⟨w.heap.size, 0, none⟩) n n) (w.alloc (.cells (madeCells #[.string ByteArray.empty, .slice none 0 0] (n * 2)) 26)) := by
  obtain ⟨i, hi, hz0, hz1, hz2⟩ := info_parts Try.info26
  have := run_make (P := Try.prog) w 23 26 i _ Try.underlying23 hi hz0 .i64 .i64 n n (by omega) (Int.le_refl _) (by rw [hz2]; omega) (by omega)
  simpa [hz1, Value.cells] using this

/-- The copied calls: n elements' room in block b, the first of them laid: names and keys. -/
def CRow (w : World) (b n : Nat) (cs : List (ByteArray × Value)) : Prop :=
  ∃ c : Array Value, w.heap[b]? = some (.cells c 26 (0, 0)) ∧ c.size = n * 2 ∧ ∀ i, i < cs.length → c[i * 2]? = some (.string (cs.getD i default).1) ∧ c[i * 2 + 1]? = some (cs.getD i default).2

/-- Every key is a byte slice of the call's own. -/
def Keys (w : World) (cs : List (ByteArray × Value)) : Prop := ∀ c ∈ cs, ∃ xs, xs.length ≤ 1048576 ∧ Own w 0 w.heap.size c.2 xs

theorem Own.kept {w w' : World} {lo lo' hi hi' : Nat} {v : Value} {xs : List UInt8} (h : Own w lo hi v xs) (hl : lo' ≤ lo) (hh : hi ≤ hi') (hk : ∀ (b : Nat) (c : Array Value), w.heap[b]? = some (.cells c 5 (0, 0)) → w'.heap[b]? = some (.cells c 5 (0, 0))) : Own w' lo' hi' v xs := by
  rcases h with h | ⟨b, hb1, hb2, hv, hh'⟩
  · exact .inl h
  · exact .inr ⟨b, by omega, by omega, hv, hk _ _ hh'⟩

/-- All rows of bytes are kept. -/
def Kept5 (w w' : World) : Prop := w.heap.size ≤ w'.heap.size ∧ ∀ (b : Nat) (c : Array Value), w.heap[b]? = some (Obj.cells c 5 (0, 0)) → w'.heap[b]? = some (Obj.cells c 5 (0, 0))
theorem Kept5.below {w w' : World} (h : Below w.heap.size w w') : Kept5 w w' := ⟨h.size, fun b _ hb => (h.block b (Array.getElem?_eq_some_iff.1 hb).1).trans hb⟩
theorem Kept5.trans {a b c : World} (h : Kept5 a b) (k : Kept5 b c) : Kept5 a c := ⟨Nat.le_trans h.1 k.1, fun x y hx => k.2 x y (h.2 x y hx)⟩
theorem Kept5.other {w w' : World} {g : Nat} {c : Array Value} {t : TypeId} {fz : Nat × Nat} (hg : w.heap[g]? = some (.cells c t fz)) (ht : t ≠ 5) (h : w.grownBy w' (some g)) : Kept5 w w' := by
  refine ⟨h.size, fun b c' hb => (h.block b (Array.getElem?_eq_some_iff.1 hb).1 ?_).trans hb⟩
  intro e
  injection e with e
  subst e
  rw [hb] at hg
  injection hg with hg
  injection hg with _ e2 _
  exact ht e2.symm
theorem Keys.kept {w w' : World} {cs : List (ByteArray × Value)} (h : Keys w cs) (hk : Kept5 w w') : Keys w' cs := fun c hc => by
  obtain ⟨xs, hx, ho⟩ := h c hc
  exact ⟨xs, hx, ho.kept (Nat.le_refl _) hk.1 hk.2⟩

theorem two_cells {w : World} {g i j : Nat} (u v : Value) : w.grownBy ((w.setCell ⟨g, i, none⟩ u).setCell ⟨g, j, none⟩ v) (some g) :=
  ⟨rfl, rfl, rfl, by simp [World.setCell], fun k hk hne => by
    have hne' : k ≠ g := fun e => hne (by rw [e])
    rw [Below.heap_setCell _ _ _ _ hne', Below.heap_setCell _ _ _ _ hne']⟩

/-- One call more is copied. -/
theorem crow_step {W wr w3 : World} {g n : Nat} {cs : List (ByteArray × Value)} {cc : Array Value} {nm : ByteArray} {v : Value} {xs : List UInt8} (hcc : wr.heap[g]? = some (.cells cc 26 (0, 0))) (hcs : cc.size = n * 2)
    (hcv : ∀ i, i < cs.length → cc[i * 2]? = some (.string (cs.getD i default).1) ∧ cc[i * 2 + 1]? = some (cs.getD i default).2) (hlt : cs.length < n) (hg : g = W.heap.size) (hbe : Below W.heap.size W wr) (hks : Keys wr cs)
    (hb : Below wr.heap.size wr w3) (ho : Own w3 wr.heap.size w3.heap.size v xs) (hx : xs.length ≤ 1048576) :
    CRow ((w3.setCell ⟨g, cs.length * 2, none⟩ (.string nm)).setCell ⟨g, cs.length * 2 + 1, none⟩ v) g n (cs ++ [(nm, v)]) ∧ Keys ((w3.setCell ⟨g, cs.length * 2, none⟩ (.string nm)).setCell ⟨g, cs.length * 2 + 1, none⟩ v) (cs ++ [(nm, v)]) ∧
      Below W.heap.size W ((w3.setCell ⟨g, cs.length * 2, none⟩ (.string nm)).setCell ⟨g, cs.length * 2 + 1, none⟩ v) := by
  have hglt := (Array.getElem?_eq_some_iff.1 hcc).1
  have hg3 : w3.heap[g]? = some (.cells cc 26 (0, 0)) := (hb.block g hglt).trans hcc
  have hk34 : Kept5 w3 ((w3.setCell ⟨g, cs.length * 2, none⟩ (.string nm)).setCell ⟨g, cs.length * 2 + 1, none⟩ v) := Kept5.other hg3 (by decide) (two_cells _ _)
  refine ⟨⟨(cc.setIfInBounds (cs.length * 2) (.string nm)).setIfInBounds (cs.length * 2 + 1) v, ?_, by simp [hcs], fun i hi => ?_⟩, ?_, ?_⟩
  · simp [World.setCell, Array.getElem?_modify, hg3]
  · simp only [List.length_append, List.length_cons, List.length_nil, Nat.zero_add] at hi
    by_cases hil : i < cs.length
    · obtain ⟨e1, e2⟩ := hcv i hil
      have e3 : (cs ++ [(nm, v)]).getD i default = cs.getD i default := by simp only [List.getD, List.getElem?_append_left hil]
      rw [e3]
      refine ⟨?_, ?_⟩
      · rw [Array.getElem?_setIfInBounds, if_neg (by omega), Array.getElem?_setIfInBounds, if_neg (by omega)]; exact e1
      · rw [Array.getElem?_setIfInBounds, if_neg (by omega), Array.getElem?_setIfInBounds, if_neg (by omega)]; exact e2
    · have hie : i = cs.length := by omega
      subst hie
      have e3 : (cs ++ [(nm, v)]).getD cs.length default = (nm, v) := by simp [List.getD]
      rw [e3]
      refine ⟨?_, ?_⟩
      · rw [Array.getElem?_setIfInBounds, if_neg (by omega), Array.getElem?_setIfInBounds, if_pos rfl, if_pos (by omega)]
      · rw [Array.getElem?_setIfInBounds, if_pos rfl, if_pos (by simp; omega)]
  · intro c hc
    rcases List.mem_append.1 hc with h | h
    · exact ((hks.kept (Kept5.below hb)).kept hk34) c h
    · simp at h
      subst h
      exact ⟨xs, hx, ho.kept (Nat.zero_le _) hk34.1 hk34.2⟩
  · exact ((hbe.trans (hb.mono hbe.size)).setCell (by show W.heap.size ≤ g; omega) _).setCell (by show W.heap.size ≤ g; omega) _

theorem CRow.kept {w w' : World} {b n : Nat} {cs : List (ByteArray × Value)} (h : CRow w b n cs) (hb : w'.heap[b]? = w.heap[b]?) : CRow w' b n cs := by
  obtain ⟨c, h1, h2⟩ := h
  exact ⟨c, hb.trans h1, h2⟩

theorem lastOf_mem (n : Int) : ∀ (cs : List (ByteArray × Value)) (x : Value × Bool), lastOf n cs = some x → ∃ c ∈ cs, c.2 = x.1
  | [], x, h => by cases h
  | c :: cs, x, h => by
    simp only [lastOf] at h
    cases hl : lastOf n cs with
    | some y =>
      rw [hl] at h
      cases h
      obtain ⟨d, hd, e⟩ := lastOf_mem n cs x hl
      exact ⟨d, List.mem_cons_of_mem _ hd, e⟩
    | none =>
      rw [hl] at h
      simp only at h
      split at h
      · cases h; exact ⟨c, List.mem_cons_self, rfl⟩
      · cases h

theorem pick_elt {w w' : World} {cs : List (ByteArray × Value)} {v : Value} {n : Int} (hk : Kept5 w w') (h : Keys w cs) (hv : ∃ xs, xs.length ≤ 1048576 ∧ Own w 0 w.heap.size v xs) : ∃ xs, Elt w' (pickV (lastOf n cs) v) xs := by
  cases hl : lastOf n cs with
  | none =>
    obtain ⟨xs, hx, ho⟩ := hv
    exact ⟨xs, (ho.kept (Nat.le_refl _) hk.1 hk.2).elt (by omega)⟩
  | some x =>
    obtain ⟨c, hc, e⟩ := lastOf_mem n cs x hl
    obtain ⟨xs, hx, ho⟩ := h c hc
    rw [e] at ho
    exact ⟨xs, (ho.kept (Nat.le_refl _) hk.1 hk.2).elt (by omega)⟩

theorem lastOf_none {n : Int} {nm : ByteArray} {v : Value} {cs : List (ByteArray × Value)} (h : lastOf n cs = none) : lastOf n ((nm, v) :: cs) = if (sd nm).1 = n then some (v, (sd nm).2) else none := by
  simp [lastOf, h]
theorem lastOf_some {n : Int} {nm : ByteArray} {v : Value} {cs : List (ByteArray × Value)} {x : Value × Bool} (h : lastOf n cs = some x) : lastOf n ((nm, v) :: cs) = some x := by
  simp [lastOf, h]
theorem lastOf_skip {n : Int} {nm : ByteArray} {v : Value} {cs : List (ByteArray × Value)} (h : ¬ (sd nm).1 = n) : lastOf n ((nm, v) :: cs) = lastOf n cs := by
  cases hl : lastOf n cs with
  | none => rw [lastOf_none hl, if_neg h]
  | some x => rw [lastOf_some hl]

theorem elt_drawn {w : World} {v : Value} {xs : List UInt8} (h : Elt w v xs) (q : Nat) : Elt (w.drewN q) v xs := by
  obtain ⟨a, c, rfl, hb⟩ := h
  exact ⟨a, c, rfl, hb.below (Drawn.below ⟨q, rfl⟩)⟩
theorem back_take {n : Int} {nm : ByteArray} {v : Value} {y : Bool} {D : List (ByteArray × Value)} (h : sd nm = (n, y)) (hf : (lastOf n D).isSome = false) : lastOf n ((nm, v) :: D) = some (v, y) := by
  rw [lastOf_none (by simpa using hf), h]; simp
theorem back_keep {n : Int} {nm : ByteArray} {v : Value} {D : List (ByteArray × Value)} (h : (sd nm).1 ≠ n ∨ (lastOf n D).isSome = true) : lastOf n ((nm, v) :: D) = lastOf n D := by
  rcases h with h | h
  · exact lastOf_skip h
  · obtain ⟨x, hx⟩ := Option.isSome_iff_exists.1 h
    rw [lastOf_some hx, hx]

/-- What one end shows after the calls. -/
structure End1 where
  v : Value
  b : Bool
  f : Bool
def endAt (n : Int) (D : List (ByteArray × Value)) (v : Value) (b : Bool) : End1 := ⟨pickV (lastOf n D) v, pickB (lastOf n D) b, (lastOf n D).isSome⟩
theorem endAt_take {n : Int} {nm : ByteArray} {v v0 : Value} {y b0 : Bool} {D : List (ByteArray × Value)} (h : sd nm = (n, y)) (hf : (endAt n D v0 b0).f = false) : endAt n ((nm, v) :: D) v0 b0 = ⟨v, y, true⟩ := by
  simp [endAt, back_take h hf, pickV, pickB]
theorem endAt_keep {n : Int} {nm : ByteArray} {v v0 : Value} {b0 : Bool} {D : List (ByteArray × Value)} (h : (sd nm).1 ≠ n ∨ (endAt n D v0 b0).f = true) : endAt n ((nm, v) :: D) v0 b0 = endAt n D v0 b0 := by
  simp only [endAt, back_keep (v := v) (D := D) (n := n) (nm := nm) h]
theorem named_at {nm : ByteArray} {z : Int} {y : Bool} (h : sd nm = (z, y)) (w : World) : Calls Try.prog 7 #[.string nm] w fun e w' => e = .returned (.tuple #[.int .i64 z, .bool y]) ∧ w' = w := by
  have := named_walk nm w
  rw [h] at this
  exact this

set_option maxHeartbeats 1000000 in
set_option maxRecDepth 100000 in
theorem law_walk (a1 a2 a3 : Option Addr) (S E : List UInt8) (n c1 c2 c3 : Nat) (x1 x2 : Bool) (w : World) (h1 : BS w a1 S) (h2 : BS w a2 E) (hn : n ≤ 9223372036854775807) (h3 : ∀ i, i < n → CallAt w a3 9223372036854775807 i) :
    Calls Try.prog 3 #[.slice a1 S.length c1, .slice a2 E.length c2, .bool x1, .bool x2, .slice a3 n c3] w (Good w) := by
  go_enter Try.func3, Try.ntmps3
  go_wp2_with fail
  refine (zzBytes_walk a1 a2 a3 _ _ n c1 c2 c3 x1 x2 w h1.1 h2.1 hn h3).mono ?_
  rintro e w' ⟨b, rfl, hw, hb⟩
  rw [hw]; clear hw w' h3 hn
  cases b with
  | false =>
    go_wp2_with fail
    go_ret
    exact ⟨rfl, Below.refl _ _⟩
  | true =>
  obtain ⟨hS, hE, hn, h3⟩ := hb rfl
  clear hb
  have hS' : decide ((1048576 : Int) < S.length) = false := decide_eq_false (by omega)
  have hE' : decide ((1048576 : Int) < E.length) = false := decide_eq_false (by omega)
  by_cases hbig : 32768 < n
  · have hbig' : (32768 : Int) < n := by omega
    go_wp2_with fail
    go_ret
    exact ⟨rfl, Below.refl _ _⟩
  have hbig' : ¬ (32768 : Int) < n := by omega
  go_upto_block 0 with fail
  go_cut [11, 12] (fun t _ w' => ∃ x : Int, t = .int .i64 x ∧ 0 ≤ x ∧ x ≤ 8388608 ∧ Drawn w w')
  case first =>
    go_wp2_with fail
    go_loopg [11, 12] n (fun g t i wr => ∃ (k : Nat) (x : Int), k + g = n ∧ i = .int .i64 k ∧ t = .int .i64 x ∧ 0 ≤ x ∧ x ≤ 8388608 ∧ Drawn w wr)
    case atStart => exact ⟨0, _, by omega, rfl, rfl, by omega, by omega, 0, rfl⟩
    case round =>
      obtain ⟨k, x, hk, rfl, rfl, hx0, hx1, hdr⟩ := hrel
      have HD : Hid (Drawn w wr) := hdr
      by_cases hlt : k < n
      · have hlt' : (k : Int) < n := by omega
        by_cases hx : x ≤ 1048576
        · obtain ⟨b, o, he, nm, ka, xs, c, hnm, hxl, hq1, hq2, _⟩ := (h3 k hlt).below hdr.below
          subst he
          have HK : Hid (k + gk = n) := hk
          clear hk hdr h3
          go_wp2_with fail
          go_quiet (fail)
          go_wp2_with fail
          have hk := HK.out
          go_roundg (gk - 1)
          case rel => exact ⟨k + 1, _, by omega, by go_num, rfl, by omega, by omega, HD.out.more _⟩
          case measure => omega
        · have hx' : decide (x ≤ 1048576) = false := decide_eq_false hx
          clear hdr
          go_wp2_with fail
          go_meet
          case rel => exact ⟨x, rfl, hx0, hx1, HD.out⟩
      · have hlt' : decide ((k : Int) < n) = false := decide_eq_false (by omega)
        clear hdr
        go_wp2_with fail
        go_meet
        case rel => exact ⟨x, rfl, hx0, hx1, HD.out⟩
  case rest =>
  obtain ⟨x, rfl, hx0, hx1, hdr⟩ := hcut
  by_cases hx : 1048576 < x
  · go_wp2_with fail
    go_ret
    exact ⟨rfl, hdr.below⟩
  have HDw : Hid (Below w.heap.size w wc) := hdr.below
  have h1c := h1.below hdr.below
  have h2c := h2.below hdr.below
  have h3c : ∀ i, i < n → CallAt wc a3 1048576 i := fun i hi => (h3 i hi).below hdr.below
  clear hdr h1 h2 h3
  rename World => w0
  go_wp2_with fail
  refine (cloneBytes_own h1c (by omega)).mono ?_
  rintro e w1 ⟨as1, cs1, rfl, ho1, hb1⟩
  have h2c1 := h2c.below hb1
  go_wp2_with fail
  refine (cloneBytes_own h2c1 (by omega)).mono ?_
  rintro e w2 ⟨ae1, ce1, rfl, ho2, hb2⟩
  have hmk := run_make26 n (by omega)
  go_wp2_with fail
  have hcr0 : CRow (w2.alloc (.cells (madeCells #[.string ByteArray.empty, .slice none 0 0] (n * 2)) 26)) w2.heap.size n [] :=
    ⟨_, heap_alloc_new w2 _, size_madeCells _ _, fun i hi => by simp at hi⟩
  have hbe0 : Below w2.heap.size w2 (w2.alloc (.cells (madeCells #[.string ByteArray.empty, .slice none 0 0] (n * 2)) 26)) := (Below.refl _ _).alloc (Nat.le_refl _) _
  have hb02 : Below w0.heap.size w0 w2 := hb1.trans (hb2.mono hb1.size)
  clear hmk h1c h2c h2c1
  go_loopg [14] n (fun g i wr => ∃ (k : Nat) (cs : List (ByteArray × Value)), k + g = n ∧ cs.length = k ∧ i = .int .i64 k ∧ CRow wr w2.heap.size n cs ∧ Keys wr cs ∧ Below w2.heap.size w2 wr)
  case atStart => exact ⟨0, [], by omega, rfl, rfl, hcr0, fun c hc => by simp at hc, hbe0⟩
  case round =>
    obtain ⟨k, cs, hk, hcl, rfl, hcr, hks, hbe⟩ := hrel
    clear hcr0 hbe0
    by_cases hlt : k < n
    · obtain ⟨b, o, he, nm, ka, xs, c, hnm, hxl, hq1, hq2, hbs⟩ := (h3c k hlt).below (hb02.trans (hbe.mono hb02.size))
      subst he
      obtain ⟨cc, hcc, hccs, hccv⟩ := hcr
      have hlt' : (k : Int) < n := by omega
      have hcA : wr.cell? ⟨w2.heap.size, k * 2, none⟩ = some (cc.getD (k * 2) undef) := by
        rw [World.cell?]; simp only [hcc]; simp [Array.getD, show k * 2 < cc.size by omega]
      have hcB : wr.cell? ⟨w2.heap.size, k * 2 + 1, none⟩ = some (cc.getD (k * 2 + 1) undef) := by
        rw [World.cell?]; simp only [hcc]; simp [Array.getD, show k * 2 + 1 < cc.size by omega]
      have hfA : ∀ o, wr.frozen? ⟨w2.heap.size, o, none⟩ = false := fun o => by simp [World.frozen?, hcc]
      obtain ⟨uA, huA⟩ : ∃ uA, uA = cc.getD (k * 2) undef := ⟨_, rfl⟩
      obtain ⟨uB, huB⟩ : ∃ uB, uB = cc.getD (k * 2 + 1) undef := ⟨_, rfl⟩
      rw [← huA] at hcA
      rw [← huB] at hcB
      have HCC : Hid (wr.heap[w2.heap.size]? = some (.cells cc 26 (0, 0))) := hcc
      have HCS : Hid (cc.size = n * 2) := hccs
      have HCV : Hid (∀ i, i < cs.length → cc[i * 2]? = some (.string (cs.getD i default).1) ∧ cc[i * 2 + 1]? = some (cs.getD i default).2) := hccv
      have HK : Hid (k + gk = n) := hk
      have HCL : Hid (cs.length = k) := hcl
      have HBE : Hid (Below w2.heap.size w2 wr) := hbe
      have HKS : Hid (Keys wr cs) := hks
      have hltB : w2.heap.size < wr.heap.size := World.block_lt_of_cell? _ _ hcA
      clear huA huB hcc hccs hccv hk hcl hbe hks h3c
      go_wp2_with fail
      go_region_with (go_at_call 5; refine (cloneBytes_own (xs := xs) ?_ hxl).mono ?_; (exact hbs); rintro e w3 ⟨a5, c5, rfl, ho5, hb5⟩; have hq1' := (hb5.cell (p := ⟨b, o + k * 2, none⟩) (World.block_lt_of_cell? _ _ hq1)).trans hq1; have hcA' := (hb5.cell (p := ⟨w2.heap.size, k * 2, none⟩) hltB).trans hcA; have hcB' := (hb5.cell (p := ⟨w2.heap.size, k * 2 + 1, none⟩) hltB).trans hcB; have hfA' := fun o => (hb5.frozen (p := ⟨w2.heap.size, o, none⟩) hltB).trans (hfA o))
      all_goals
        go_wp2_with fail
        have hk := HK.out
        have hcl := HCL.out
        go_roundg (gk - 1)
        case rel =>
          have hb5' : Below wr.heap.size wr w3 := ⟨hb5.os, hb5.tape, hb5.output, hb5.size, hb5.block⟩
          have HH := crow_step (n := n) (nm := nm) HCC.out HCS.out HCV.out (by omega) rfl HBE.out HKS.out hb5' ho5 hxl
          rw [hcl] at HH
          exact ⟨k + 1, cs ++ [(nm, .slice a5 xs.length c5)], by omega, by simp; exact hcl, by go_num, HH.1, HH.2.1, HH.2.2⟩
        case measure => omega
    · have hkn : k = n := by omega
      subst hkn
      obtain ⟨w4, hw4⟩ : ∃ w4, w4 = wr := ⟨_, rfl⟩
      rw [← hw4] at hcr hks hbe ⊢
      clear hw4 hk hlt h3c
      have hrb0 := heap_alloc_new w4 (.cells (Rng.cells ⟨.slice as1 S.length cs1, .slice ae1 E.length ce1, x1, x2⟩) 30)
      have hcr4 : CRow (w4.alloc (.cells (Rng.cells ⟨.slice as1 S.length cs1, .slice ae1 E.length ce1, x1, x2⟩) 30)) w2.heap.size k cs := hcr.kept (by
        obtain ⟨cc, hcc, _⟩ := hcr
        exact Below.heap_alloc _ _ _ (Array.getElem?_eq_some_iff.1 hcc).1)
      have hks4 : Keys (w4.alloc (.cells (Rng.cells ⟨.slice as1 S.length cs1, .slice ae1 E.length ce1, x1, x2⟩) 30)) cs := hks.kept (Kept5.below ((Below.refl _ _).alloc (Nat.le_refl _) _))
      have hglt : w2.heap.size < w4.heap.size := by
        obtain ⟨cc, hcc, _⟩ := hcr
        exact (Array.getElem?_eq_some_iff.1 hcc).1
      have hst4 : ∃ xs, xs.length ≤ 1048576 ∧ Own (w4.alloc (.cells (Rng.cells ⟨.slice as1 S.length cs1, .slice ae1 E.length ce1, x1, x2⟩) 30)) 0 (w4.alloc (.cells (Rng.cells ⟨.slice as1 S.length cs1, .slice ae1 E.length ce1, x1, x2⟩) 30)).heap.size (.slice as1 S.length cs1) xs :=
        ⟨S, by omega, ho1.kept (Nat.zero_le _) (by have := hb2.size; have := hbe.size; simp; omega) (((Kept5.below hb2).trans (Kept5.below hbe)).trans (Kept5.below ((Below.refl _ _).alloc (Nat.le_refl _) _))).2⟩
      have hen4 : ∃ xs, xs.length ≤ 1048576 ∧ Own (w4.alloc (.cells (Rng.cells ⟨.slice as1 S.length cs1, .slice ae1 E.length ce1, x1, x2⟩) 30)) 0 (w4.alloc (.cells (Rng.cells ⟨.slice as1 S.length cs1, .slice ae1 E.length ce1, x1, x2⟩) 30)).heap.size (.slice ae1 E.length ce1) xs :=
        ⟨E, by omega, ho2.kept (Nat.zero_le _) (by have := hbe.size; simp; omega) ((Kept5.below hbe).trans (Kept5.below ((Below.refl _ _).alloc (Nat.le_refl _) _))).2⟩
      have HB4 : Hid (Below w.heap.size w (w4.alloc (.cells (Rng.cells ⟨.slice as1 S.length cs1, .slice ae1 E.length ce1, x1, x2⟩) 30))) :=
        (HDw.out.trans (hb02.mono HDw.out.size)).trans ((hbe.trans (((Below.refl _ _).alloc (Nat.le_refl _) _).mono hbe.size)).mono (Nat.le_trans HDw.out.size hb02.size))
      go_wp2_with fail
      obtain ⟨r0, hr0⟩ : ∃ r0 : Rng, r0 = ⟨.slice as1 S.length cs1, .slice ae1 E.length ce1, x1, x2⟩ := ⟨_, rfl⟩
      have hcl : cs.length = k := by assumption
      obtain ⟨W5, hW5⟩ : ∃ W5, W5 = w4.alloc (.cells (Rng.cells ⟨.slice as1 S.length cs1, .slice ae1 E.length ce1, x1, x2⟩) 30) := ⟨_, rfl⟩
      obtain ⟨rb, hrbe⟩ : ∃ rb, rb = w4.heap.size := ⟨_, rfl⟩
      obtain ⟨G, hG⟩ : ∃ G, G = w2.heap.size := ⟨_, rfl⟩
      show Code.wp _ _ _ _ (w4.alloc (.cells (Rng.cells ⟨.slice as1 S.length cs1, .slice ae1 E.length ce1, x1, x2⟩) 30))
      rw [← hW5] at hrb0 hcr4 hks4 hst4 hen4 HB4 ⊢
      rw [← hrbe] at hrb0 hglt ⊢
      rw [← hG] at hcr4 hglt ⊢
      rw [← hr0] at hrb0
      have HR0 : Hid (r0 = ⟨.slice as1 S.length cs1, .slice ae1 E.length ce1, x1, x2⟩) := hr0
      have HCL : Hid (cs.length = k) := hcl
      have HRB0 : Hid (∃ c5, W5.heap[rb]? = some (.cells c5 30 (0, 0))) := ⟨_, hrb0⟩
      have HRB1 : Hid (w.heap.size ≤ rb) := by show _ ≤ _; have := HDw.out.size; have := hb02.size; have := hbe.size; omega
      clear hW5 hrbe hG hr0 hcl hcr hks hbe hb02 ho1 ho2 hb1 hb2 HDw
      go_loopg [16, 17] k (fun g ar i wr => ∃ j : Nat, j + g = k ∧ i = .int .i64 j ∧ ar = .bool true ∧ wr.heap[rb]? = some (.cells (play (cs.take j) r0).cells 30 (0, 0)) ∧ W5.grownBy wr (some rb))
      case atStart => exact ⟨0, by omega, rfl, rfl, hrb0, World.grownBy.refl _ _⟩
      case round =>
        obtain ⟨j, hj, rfl, rfl, hrb, hgr⟩ := hrel
        rename World => wo
        clear hrb0
        have hGo : wo.heap[G]? = W5.heap[G]? := hgr.block G (by obtain ⟨cc, hcc, _⟩ := hcr4; exact (Array.getElem?_eq_some_iff.1 hcc).1) (by simp; omega)
        have hcro := hcr4.kept hGo
        by_cases hlt : j < k
        · have hlt' : (j : Int) < k := by omega
          have hjl : j < cs.length := by rw [HCL.out]; exact hlt
          obtain ⟨xs, hxl, hown⟩ := hks4 (cs.getD j default) (by rw [List.getD, List.getElem?_eq_getElem hjl]; exact List.getElem_mem hjl)
          obtain ⟨ka, kc, hkv⟩ := hown.shape
          obtain ⟨cc, hcc, hccs, hccv⟩ := hcro
          obtain ⟨hv1, hv2⟩ := hccv j hjl
          rw [hkv] at hv2
          obtain ⟨nm, hnm⟩ : ∃ nm, nm = (cs.getD j default).1 := ⟨_, rfl⟩
          rw [← hnm] at hv1
          have hq1 : wo.cell? ⟨G, j * 2, none⟩ = some (.string nm) := by rw [World.cell?]; simp only [hcc]; simpa using hv1
          have hq2 : wo.cell? ⟨G, j * 2 + 1, none⟩ = some (.slice ka xs.length kc) := by rw [World.cell?]; simp only [hcc]; simpa using hv2
          have HJ : Hid (j + gk = k) := hj
          have HN : Hid (cs.getD j default = (nm, .slice ka xs.length kc)) := by show _ = _; rw [← hkv, hnm]
          have HGR : Hid (W5.grownBy wo (some rb)) := hgr
          have hne : (((sd nm).1 != 0) != ((sd nm).1 != 0)) = false := by simp
          have hGlt : G < wo.heap.size := (Array.getElem?_eq_some_iff.1 hcc).1
          have HRB : Hid (wo.heap[rb]? = some (.cells (play (cs.take j) r0).cells 30 (0, 0))) := hrb
          clear hj hnm hkv hcc hccs hccv hv1 hv2 hgr hGo hown hrb
          go_wp2_with fail
          go_region_with (go_at_call 6; refine (set_walk rb (play (cs.take j) r0) nm ka xs.length kc _ ?_).mono ?_; (exact HRB.out); rintro e w6 ⟨rfl, hrb6, hg6⟩; have hq1' : w6.cell? ⟨G, j * 2, none⟩ = some (.string nm) := (World.cell?_of_block (hg6.block G hGlt (by simp; omega))).trans hq1)
          all_goals
            have HRB6 : Hid (w6.heap[rb]? = some (.cells ((play (cs.take j) r0).set nm (.slice ka xs.length kc)).cells 30 (0, 0))) := hrb6
            have HG6 : Hid (W5.grownBy w6 (some rb)) := HGR.out.trans ⟨hg6.os, hg6.tape, hg6.output, hg6.size, hg6.block⟩
            clear hrb6 hg6
            go_wp2_with (go_at_call 7; refine (named_walk nm _).mono ?_; rintro e w7 ⟨rfl, hw7⟩; rw [hw7]; clear hw7)
            have hj := HJ.out
            go_roundg (gk - 1)
            case rel =>
              refine ⟨j + 1, by omega, by go_num, rfl, ?_, HG6.out⟩
              rw [List.take_succ_eq_append_getElem hjl, play, List.foldl_append, ← play]
              have e1 : cs[j] = (nm, .slice ka xs.length kc) := by rw [← HN.out, List.getD, List.getElem?_eq_getElem hjl]; rfl
              rw [e1]
              exact HRB6.out
            case measure => omega
        · have hjk : j = k := by omega
          subst hjk
          have htk : cs.take j = cs := List.take_of_length_le (by rw [HCL.out]; exact Nat.le_refl _)
          rw [htk] at hrb
          rw [play_eq, HR0.out] at hrb
          have hkv : ∀ i, i < cs.length → ∃ (nm : ByteArray) (ka : Option Addr) (l kc : Nat), cs.getD i default = (nm, .slice ka l kc) ∧ wo.cell? ⟨G, i * 2, none⟩ = some (.string nm) ∧ wo.cell? ⟨G, i * 2 + 1, none⟩ = some (.slice ka l kc) := by
            intro i hi
            obtain ⟨xs, hxl, hown⟩ := hks4 (cs.getD i default) (by rw [List.getD, List.getElem?_eq_getElem hi]; exact List.getElem_mem hi)
            obtain ⟨ka, kc, hkv⟩ := hown.shape
            obtain ⟨cc, hcc, hccs, hccv⟩ := hcro
            obtain ⟨hv1, hv2⟩ := hccv i hi
            rw [hkv] at hv2
            refine ⟨(cs.getD i default).1, ka, xs.length, kc, by rw [← hkv], ?_, ?_⟩
            · rw [World.cell?]; simp only [hcc]; simpa using hv1
            · rw [World.cell?]; simp only [hcc]; simpa using hv2
          obtain ⟨q0, q1, q2, q3, _⟩ := rng_facts hrb
          have HQ0 : Hid (wo.cell? ⟨rb, 0, none⟩ = some (pickV (lastOf 1 cs) (.slice as1 S.length cs1))) := q0
          have HQ1 : Hid (wo.cell? ⟨rb, 1, none⟩ = some (pickV (lastOf 2 cs) (.slice ae1 E.length ce1))) := q1
          have HQ2 : Hid (wo.cell? ⟨rb, 2, none⟩ = some (.bool (pickB (lastOf 1 cs) x1))) := q2
          have HQ3 : Hid (wo.cell? ⟨rb, 3, none⟩ = some (.bool (pickB (lastOf 2 cs) x2))) := q3
          have hk5 : Kept5 W5 wo := by
            obtain ⟨c5, hc5⟩ : ∃ c5, W5.heap[rb]? = some (.cells c5 30 (0, 0)) := HRB0.out
            exact Kept5.other hc5 (by decide) hgr
          have HSv : Hid (∃ xs, Elt wo (pickV (lastOf 1 cs) (.slice as1 S.length cs1)) xs) := pick_elt hk5 hks4 hst4
          have HEv : Hid (∃ xs, Elt wo (pickV (lastOf 2 cs) (.slice ae1 E.length ce1)) xs) := pick_elt hk5 hks4 hen4
          have HBo : Hid (Below w.heap.size w wo) := ⟨hgr.os.trans HB4.out.os, hgr.tape.trans HB4.out.tape, hgr.output.trans HB4.out.output, Nat.le_trans HB4.out.size hgr.size, fun x hx => by
            rw [hgr.block x (by have := HB4.out.size; omega) (by have := HRB1.out; simp; omega)]
            exact HB4.out.block x hx⟩
          have hlt' : ¬ (j : Int) < j := by omega
          clear hrb hgr hGo hcro hcr4 hks4 hst4 hen4 q0 q1 q2 q3 htk hk5 HR0 HB4 hj
          go_wp2_with fail
          go_loopg [21, 22, 23, 24, 25, 26, 27] j (fun g ws wx we wxe fs fe i wr => g ≤ j ∧ i = .int .i64 ((g : Int) - 1) ∧ ws = (endAt 1 (cs.drop g) (.slice as1 S.length cs1) x1).v ∧ wx = .bool (endAt 1 (cs.drop g) (.slice as1 S.length cs1) x1).b ∧
            we = (endAt 2 (cs.drop g) (.slice ae1 E.length ce1) x2).v ∧ wxe = .bool (endAt 2 (cs.drop g) (.slice ae1 E.length ce1) x2).b ∧ fs = .bool (endAt 1 (cs.drop g) (.slice as1 S.length cs1) x1).f ∧ fe = .bool (endAt 2 (cs.drop g) (.slice ae1 E.length ce1) x2).f ∧ wr = wo)
          case atStart =>
            have hd : cs.drop j = [] := List.drop_of_length_le (by rw [HCL.out]; exact Nat.le_refl _)
            rw [hd]
            exact ⟨Nat.le_refl _, rfl, rfl, rfl, rfl, rfl, rfl, rfl, rfl⟩
          case round =>
            obtain ⟨hg, rfl, rfl, rfl, rfl, rfl, rfl, rfl, hwr⟩ := hrel
            obtain ⟨⟨V1, B1, F1⟩, hE1⟩ : ∃ q, endAt 1 (cs.drop gk) (.slice as1 S.length cs1) x1 = q := ⟨_, rfl⟩
            obtain ⟨⟨V2, B2, F2⟩, hE2⟩ : ∃ q, endAt 2 (cs.drop gk) (.slice ae1 E.length ce1) x2 = q := ⟨_, rfl⟩
            rw [hE1, hE2, hwr]
            clear hwr
            dsimp only
            cases gk with
            | zero =>
              have h0 : decide ((0 : Int) ≤ ((0 : Nat) : Int) - 1) = false := by decide
              rw [List.drop_zero] at hE1 hE2
              have q0 : wo.cell? ⟨rb, 0, none⟩ = some V1 := by rw [HQ0.out]; exact congrArg (fun q => some q.v) hE1
              have q1 : wo.cell? ⟨rb, 1, none⟩ = some V2 := by rw [HQ1.out]; exact congrArg (fun q => some q.v) hE2
              have q2 : wo.cell? ⟨rb, 2, none⟩ = some (.bool B1) := by rw [HQ2.out]; exact congrArg (fun q => some (Value.bool q.b)) hE1
              have q3 : wo.cell? ⟨rb, 3, none⟩ = some (.bool B2) := by rw [HQ3.out]; exact congrArg (fun q => some (Value.bool q.b)) hE2
              have HS : Hid (∃ xs, Elt wo V1 xs) := by
                obtain ⟨xs, hx⟩ : ∃ xs, Elt wo (pickV (lastOf 1 cs) (.slice as1 S.length cs1)) xs := HSv.out
                exact ⟨xs, (show pickV (lastOf 1 cs) (.slice as1 S.length cs1) = V1 from congrArg (fun q => q.v) hE1) ▸ hx⟩
              have HE : Hid (∃ xs, Elt wo V2 xs) := by
                obtain ⟨xs, hx⟩ : ∃ xs, Elt wo (pickV (lastOf 2 cs) (.slice ae1 E.length ce1)) xs := HEv.out
                exact ⟨xs, (show pickV (lastOf 2 cs) (.slice ae1 E.length ce1) = V2 from congrArg (fun q => q.v) hE2) ▸ hx⟩
              clear hE1 hE2 HQ0 HQ1 HQ2 HQ3 HSv HEv hkv
              obtain ⟨xs1, he1⟩ : ∃ xs, Elt wo V1 xs := HS.out
              obtain ⟨xs2, he2⟩ : ∃ xs, Elt wo V2 xs := HE.out
              go_wp2_with fail
              refine (same_any he1).mono ?_
              rintro e w8 ⟨rfl, q8, hw8⟩
              rw [hw8]; clear hw8
              go_wp2_with fail
              refine (same_any (elt_drawn he2 q8)).mono ?_
              rintro e w9 ⟨rfl, q9, hw9⟩
              rw [hw9]; clear hw9
              go_wp2_with fail
              go_ret
              refine ⟨by simp, ?_⟩
              have hb := HBo.out
              exact ⟨hb.os, hb.tape, hb.output, hb.size, hb.block⟩
            | succ m =>
              have hml : m < cs.length := by rw [HCL.out]; omega
              obtain ⟨nm, ka, l, kc, hgd, hq1, hq2⟩ := hkv m hml
              have HD : Hid (cs.drop m = (nm, .slice ka l kc) :: cs.drop (m + 1)) := by
                show _ = _
                rw [List.drop_eq_getElem_cons hml]
                congr 1
                rw [← hgd, List.getD, List.getElem?_eq_getElem hml]; rfl
              obtain ⟨⟨z, y⟩, hsd⟩ : ∃ q, sd nm = q := ⟨_, rfl⟩
              have HE1 : Hid (endAt 1 (cs.drop (m + 1)) (.slice as1 S.length cs1) x1 = ⟨V1, B1, F1⟩) := hE1
              have HE2 : Hid (endAt 2 (cs.drop (m + 1)) (.slice ae1 E.length ce1) x2 = ⟨V2, B2, F2⟩) := hE2
              have HSD : Hid (sd nm = (z, y)) := hsd
              have hml' : (m : Int) < j := by omega
              have hm0 : (((m + 1 : Nat) : Int) - 1) = m := by omega
              rw [hm0]
              clear hE1 hE2 hsd hkv hgd hml hm0
              by_cases hz1 : z = 1
              · subst hz1
                cases F1 <;> go_wp2_with (go_at_call 7; refine (named_at HSD.out _).mono ?_; rintro e w7 ⟨rfl, hw7⟩; rw [hw7]; clear hw7)
                all_goals
                  go_roundg m
                  case rel =>
                    refine ⟨by omega, by go_num, ?_⟩
                    rw [HD.out]
                    rw [endAt_keep (n := 2) (.inl (by rw [HSD.out]; simp)), HE2.out]
                    first
                      | rw [endAt_take HSD.out (by rw [HE1.out])]; exact ⟨rfl, rfl, rfl, rfl, rfl, rfl, rfl⟩
                      | rw [endAt_keep (n := 1) (.inr (by rw [HE1.out])), HE1.out]; exact ⟨rfl, rfl, rfl, rfl, rfl, rfl, rfl⟩
                  case measure => omega
              · by_cases hz2 : z = 2
                · subst hz2
                  cases F2 <;> go_wp2_with (go_at_call 7; refine (named_at HSD.out _).mono ?_; rintro e w7 ⟨rfl, hw7⟩; rw [hw7]; clear hw7)
                  all_goals
                    go_roundg m
                    case rel =>
                      refine ⟨by omega, by go_num, ?_⟩
                      rw [HD.out]
                      rw [endAt_keep (n := 1) (.inl (by rw [HSD.out]; simp)), HE1.out]
                      first
                        | rw [endAt_take HSD.out (by rw [HE2.out])]; exact ⟨rfl, rfl, rfl, rfl, rfl, rfl, rfl⟩
                        | rw [endAt_keep (n := 2) (.inr (by rw [HE2.out])), HE2.out]; exact ⟨rfl, rfl, rfl, rfl, rfl, rfl, rfl⟩
                    case measure => omega
                · have hz1' : decide (z = 1) = false := decide_eq_false hz1
                  have hz2' : decide (z = 2) = false := decide_eq_false hz2
                  go_wp2_with (go_at_call 7; refine (named_at HSD.out _).mono ?_; rintro e w7 ⟨rfl, hw7⟩; rw [hw7]; clear hw7)
                  go_roundg m
                  case rel =>
                    refine ⟨by omega, by go_num, ?_⟩
                    rw [HD.out]
                    rw [endAt_keep (n := 1) (.inl (by rw [HSD.out]; exact hz1)), HE1.out, endAt_keep (n := 2) (.inl (by rw [HSD.out]; exact hz2)), HE2.out]
                    exact ⟨rfl, rfl, rfl, rfl, rfl, rfl, rfl⟩
                  case measure => omega
end Go.Proofs.Qxb6605270a
