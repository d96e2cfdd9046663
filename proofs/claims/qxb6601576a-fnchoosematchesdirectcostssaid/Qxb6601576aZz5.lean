import Derived.Test.Qxb6601576aChoose5
import Derived.Test.Qxb6601576aBox5
namespace Go.Proofs.Qxb6601576a
open Go.RowKit

/-- An array of lengths, as a value. -/
def LenArr (A : Array Value) (L : Nat → Nat → Nat) : Prop := A.size = 1548 ∧ ∀ p, p < 1548 → A[p]? = some (.int .u8 (L (p / 258) (p % 258) : Nat))

theorem LenArr.one {A : Array Value} {L : Nat → Nat → Nat} (h : LenArr A L) : ∀ v ∈ A, v.oneCell' = true := by
  intro v hv
  obtain ⟨i, hi, rfl⟩ := Array.mem_iff_getElem.1 hv
  have := h.2 i (by rw [← h.1]; exact hi)
  rw [Array.getElem?_eq_getElem hi] at this
  injection this with this
  rw [this]; rfl

theorem Mid.trans {lo hi : Nat} {a b c : World} (h : Mid lo hi a b) (k : Mid lo hi b c) : Mid lo hi a c :=
  ⟨h.below.trans k.below, fun x hx hs => (k.above x hx (Nat.lt_of_lt_of_le hs h.below.size)).trans (h.above x hx hs)⟩

theorem wpList_built {P : Program} {ops : Array Oper} {rest : List Oper} {o : Oper} {a : Act} {w : World} {Q : Exit → Act → World → Prop} (hg : o.guard = none) (t : TypeId) (x y z : Operand) (ho : o.op = .build t #[(0, x), (1, y), (2, z)])
    (u v r : Value) (hx : a.eval x = u) (hy : a.eval y = v) (hz : a.eval z = r) (cells : Array Value) (hb : P.built t [(0, u), (1, v), (2, r)] = some cells) (h : wpList P ops Q rest (a.put o.dst (.agg cells)) w) : wpList P ops Q (o :: rest) a w := by
  have e : P.built t ((#[(0, x), (1, y), (2, z)] : Array (Nat × Operand)).map fun (i, x) => (i, a.eval x)).toList = some cells := by
    subst hx hy hz
    simpa using hb
  exact wpList_build hg t #[(0, x), (1, y), (2, z)] ho (by rw [e]; rfl) (by rw [e]; exact h)

/-- What ZZChoose is handed. -/
structure In0 (lo hi : Nat) (w : World) (sb : Nat → Nat) (sa : Nat → Option Addr) (n : Nat → Nat) (L : Nat → Nat → Nat → Nat) (G : Nat) (S : Nat → Nat → Nat) (ea ta : Option Addr) (nE cE nT : Nat) (E st : Nat → Nat) (T : Nat → Int) (fp : Option Nat) (A : Nat → Int) : Prop where
  lohi : lo ≤ hi
  hiw : hi ≤ w.heap.size
  sel : ∀ f, f < 2 → 0 < G → sa f = some ⟨sb f, 0, none⟩ ∧ lo ≤ sb f ∧ sb f < hi ∧ w.rowIs (sb f) 5 G (fun i => .int .u8 (S f i : Nat))
  sne : 0 < G → sb 0 ≠ sb 1
  ent : CB lo w ea nE (fun i => .int .u16 (E i : Nat))
  sta : CB lo w ta nT (fun i => .int .i32 (T i))
  grp : Grp E st T G nE nT
  hea : (∃ b o, ea = some ⟨b, o, none⟩) ∨ ea = none ∧ cE = 0
  hcE : nE ≤ cE
  hn1 : ∀ f, f < 2 → 1 ≤ n f
  hn6 : ∀ f, f < 2 → n f ≤ 6
  hL : ∀ f t s, f < 2 → t < n f → s < 258 → L f t s ≤ 100
  fit : ∀ bf, fp = some bf → lo ≤ bf ∧ bf < hi ∧ w.rowIs bf 34 3096 (fun p => .int .i64 (A p)) ∧ (∀ p, p < 3096 → wrap64 (A p) = A p) ∧ (∀ f g, f < 2 → g < G → S f g < 6) ∧ (0 < G → bf ≠ sb 0 ∧ bf ≠ sb 1)

set_option maxHeartbeats 2000000 in
set_option maxRecDepth 100000 in
theorem zzChoose_walk (lo hi : Nat) (w : World) (A0 A1 : Array Value) (sb : Nat → Nat) (sa : Nat → Option Addr) (sc n : Nat → Nat) (L : Nat → Nat → Nat → Nat) (G : Nat) (S : Nat → Nat → Nat) (ea ta : Option Addr) (nE cE nT cT : Nat) (E st : Nat → Nat) (T : Nat → Int) (fp : Option Nat) (A : Nat → Int)
    (hA0 : LenArr A0 (L 0)) (hA1 : LenArr A1 (L 1)) (h : In0 lo hi w sb sa n L G S ea ta nE cE nT E st T fp A) :
    Calls Try.prog 19 #[.int .i64 (n 0 : Nat), .agg A0, .slice (sa 0) G (sc 0), .int .i64 (n 1 : Nat), .agg A1, .slice (sa 1) G (sc 1), .slice ea nE cE, .slice ta nT cT, .pointer (fp.map fun b => ⟨b, 0, none⟩)] w (ChooseSays lo hi w sb n L G S E st fp A) := by
  have hlow : lo ≤ w.heap.size := Nat.le_trans h.lohi h.hiw
  obtain ⟨B0, hB0⟩ : ∃ B, B = box59 (n 0 : Nat) A0 (.slice (sa 0) G (sc 0)) := ⟨_, rfl⟩
  obtain ⟨B1, hB1⟩ : ∃ B, B = box59 (n 1 : Nat) A1 (.slice (sa 1) G (sc 1)) := ⟨_, rfl⟩
  have hb0 : Try.prog.built 59 [(0, .int .i64 (n 0 : Nat)), (1, .agg A0), (2, .slice (sa 0) G (sc 0))] = some B0 := by rw [hB0]; exact built59 _ A0 hA0.1 _ _ _
  have hb1 : Try.prog.built 59 [(0, .int .i64 (n 1 : Nat)), (1, .agg A1), (2, .slice (sa 1) G (sc 1))] = some B1 := by rw [hB1]; exact built59 _ A1 hA1.1 _ _ _
  have H : Hid (In0 lo hi w sb sa n L G S ea ta nE cE nT E st T fp A) := h
  have HB0 : Hid (B0 = box59 (n 0 : Nat) A0 (.slice (sa 0) G (sc 0))) := hB0
  have HB1 : Hid (B1 = box59 (n 1 : Nat) A1 (.slice (sa 1) G (sc 1))) := hB1
  have z43 := zero43
  have i0 : (Try.prog.info? 24).map (·.size) = some A0.size := by rw [hA0.1]; kernel_rfl
  have i1 : (Try.prog.info? 24).map (·.size) = some A1.size := by rw [hA1.1]; kernel_rfl
  clear h hB0 hB1
  go_enter Try.func19, Try.ntmps19
  go_upto_region 1 with fail
  refine wp_world (fun W1 hW1 => ?_)
  have hh0 : W1.heap[w.heap.size]? = some (.cells A0 24 (0, 0)) := by
    rw [hW1, Below.heap_alloc _ _ _ (by simp; omega), Below.heap_alloc _ _ _ (by simp)]; exact heap_alloc_new w _
  have hh1 : W1.heap[w.heap.size + 1]? = some (.cells A1 24 (0, 0)) := by
    rw [hW1, Below.heap_alloc _ _ _ (by simp)]
    have := heap_alloc_new (w.alloc (.cells A0 24)) (.cells A1 24)
    rw [show (w.alloc (.cells A0 24)).heap.size = w.heap.size + 1 by simp] at this
    exact this
  have hs1 : W1.heap.size = w.heap.size + 3 := by rw [hW1]; simp
  have hres : W1.rowIs (w.heap.size + 2) 43 2 (fun _ => .int .i64 0) := by
    rw [hW1]
    have := World.rowIs_alloc ((w.alloc (.cells A0 24)).alloc (.cells A1 24)) #[.int .i64 0, .int .i64 0] 43 (fun _ => .int .i64 0) (fun i hi => by
      simp at hi
      match i, hi with
      | 0, _ => rfl
      | 1, _ => rfl)
    rw [show ((w.alloc (.cells A0 24)).alloc (.cells A1 24)).heap.size = w.heap.size + 2 by simp] at this
    exact this
  have hM1 : Mid lo hi w W1 := by rw [hW1]; exact (((Mid.refl lo hi w).alloc hlow _).alloc hlow _).alloc hlow _
  have HW : Hid (W1.heap.size = w.heap.size + 3) := hs1
  have HRes : Hid (W1.rowIs (w.heap.size + 2) 43 2 (fun _ => .int .i64 0)) := hres
  have HM1 : Hid (Mid lo hi w W1) := hM1
  have hK1 : Below w.heap.size w W1 := by rw [hW1]; exact (((Below.refl _ _).alloc (Nat.le_refl _) _).alloc (by simp) _).alloc (by simp; omega) _
  have HKeep : Hid (∀ b, b < w.heap.size → ∀ W, Below W1.heap.size W1 W → W.heap[b]? = w.heap[b]?) := fun b hb W hW => (hW.block b (by omega)).trans (hK1.block b hb)
  have hh1' : (W1.alloc (.cells B0 59)).heap[w.heap.size + 1]? = some (.cells A1 24 (0, 0)) := (Below.heap_alloc _ _ _ (by omega)).trans hh1
  clear hW1 hs1 hres hM1 hh1 hK1
  go_upto_region 2 with (first | (refine wpList_load_row rfl 24 (.tmp 10) rfl w.heap.size rfl 24 A0 (0, 0) _ hh0 Try.underlying24 rfl i0 ?_) | (refine wpList_built rfl 59 (.tmp 22) (.tmp 23) (.tmp 24) rfl (.int .i64 (n 0 : Nat)) (.agg A0) (.slice (sa 0) G (sc 0)) rfl rfl rfl B0 hb0 ?_))
  go_upto_region 3 with (first | (refine wpList_load_row rfl 24 (.tmp 13) rfl (w.heap.size + 1) rfl 24 A1 (0, 0) _ hh1' Try.underlying24 rfl i1 ?_) | (refine wpList_built rfl 59 (.tmp 27) (.tmp 28) (.tmp 29) rfl (.int .i64 (n 1 : Nat)) (.agg A1) (.slice (sa 1) G (sc 1)) rfl rfl rfl B1 hb1 ?_))
  obtain ⟨W2, hW2⟩ : ∃ W, W = ((W1.alloc (.cells B0 59)).alloc (.cells B1 59)).alloc (.cells #[.slice ea nE cE, .slice ta nT cT] 62) := ⟨_, rfl⟩
  have hM2 : Mid lo hi w W2 := by
    have h1 := HM1.out
    rw [hW2]; exact ((h1.alloc hlow _).alloc hlow _).alloc hlow _
  have hb0 : W2.heap[W1.heap.size]? = some (.cells B0 59 (0, 0)) := by
    rw [hW2, Below.heap_alloc _ _ _ (by simp; omega), Below.heap_alloc _ _ _ (by simp)]; exact heap_alloc_new W1 _
  have hb1 : W2.heap[W1.heap.size + 1]? = some (.cells B1 59 (0, 0)) := by
    rw [hW2, Below.heap_alloc _ _ _ (by simp)]
    have := heap_alloc_new (W1.alloc (.cells B0 59)) (.cells B1 59)
    rw [show (W1.alloc (.cells B0 59)).heap.size = W1.heap.size + 1 by simp] at this
    exact this
  have hbg : W2.heap[W1.heap.size + 2]? = some (.cells #[.slice ea nE cE, .slice ta nT cT] 62 (0, 0)) := by
    rw [hW2]
    have := heap_alloc_new ((W1.alloc (.cells B0 59)).alloc (.cells B1 59)) (.cells #[.slice ea nE cE, .slice ta nT cT] 62)
    rw [show ((W1.alloc (.cells B0 59)).alloc (.cells B1 59)).heap.size = W1.heap.size + 2 by simp] at this
    exact this
  have hsz : W2.heap.size = W1.heap.size + 3 := by rw [hW2]; simp
  have hrow2 : W2.rowIs (w.heap.size + 2) 43 2 (fun _ => .int .i64 0) := by
    rw [hW2]; exact ((HRes.out.alloc _).alloc _).alloc _
  have hkeep : ∀ b, b < w.heap.size → W2.heap[b]? = w.heap[b]? := fun b hb => HKeep.out b hb W2 (by rw [hW2]; exact (((Below.refl _ _).alloc (Nat.le_refl _) _).alloc (by simp) _).alloc (by simp; omega) _)
  have hIn : In lo hi W2 (fun f => W1.heap.size + f) sb sa sc n L G S (W1.heap.size + 2) ea ta nE cE nT cT E st T fp A := by
    have h := H.out
    have hWs := HW.out
    have cell0 : ∀ f, f < 2 → ∃ B X, W2.heap[W1.heap.size + f]? = some (.cells (box59 (n f : Nat) X (.slice (sa f) G (sc f))) 59 (0, 0)) ∧ LenArr X (L f) ∧ B = X := fun f hf => by
      obtain rfl | rfl : f = 0 ∨ f = 1 := by omega
      · exact ⟨A0, A0, by rw [← HB0.out]; exact hb0, hA0, rfl⟩
      · exact ⟨A1, A1, by rw [← HB1.out]; exact hb1, hA1, rfl⟩
    refine ⟨h.lohi, by have := h.hiw; omega, fun f hf => ?_, fun f hf t s ht hs => ?_, fun f hf => ?_, fun f hf => by have := h.hiw; omega, fun f hf hG => ?_, h.sne, by have := h.hiw; omega, ?_, ?_, h.ent.below hM2.below, h.sta.below hM2.below, h.grp, h.hea, h.hcE, h.hn1, h.hn6, h.hL, fun bf hb => ?_⟩
    · obtain ⟨_, X, hc, hX, _⟩ := cell0 f hf
      rw [cell_of_row _ _ 0 _ 59 (0, 0) hc, box59_get _ _ hX.1, if_neg (by omega), if_neg (by omega), if_pos rfl]
    · obtain ⟨_, X, hc, hX, _⟩ := cell0 f hf
      rw [cell_of_row _ _ (1 + (t * 258 + s)) _ 59 (0, 0) hc, box59_get _ _ hX.1, if_neg (by omega), if_pos (by omega), show 1 + (t * 258 + s) - 1 = t * 258 + s by omega, hX.2 _ (by omega), show (t * 258 + s) / 258 = t by omega, show (t * 258 + s) % 258 = s by omega]
    · obtain ⟨_, X, hc, hX, _⟩ := cell0 f hf
      rw [cell_of_row _ _ 1549 _ 59 (0, 0) hc, box59_get _ _ hX.1, if_pos rfl]
    · have hs := h.sel f hf hG
      exact ⟨hs.1, hs.2.1, hs.2.2.1, hs.2.2.2.of_block (hkeep _ (Nat.lt_of_lt_of_le hs.2.2.1 h.hiw))⟩
    · rw [World.cell?]; simp only [hbg]; rfl
    · rw [World.cell?]; simp only [hbg]; rfl
    · have hs := h.fit bf hb
      exact ⟨hs.1, hs.2.1, hs.2.2.1.of_block (hkeep _ (Nat.lt_of_lt_of_le hs.2.1 h.hiw)), hs.2.2.2⟩
  have HIn : Hid (In lo hi W2 (fun f => W1.heap.size + f) sb sa sc n L G S (W1.heap.size + 2) ea ta nE cE nT cT E st T fp A) := hIn
  have HW2 : Hid (W2 = ((W1.alloc (.cells B0 59)).alloc (.cells B1 59)).alloc (.cells #[.slice ea nE cE, .slice ta nT cT] 62)) := hW2
  have HM2 : Hid (Mid lo hi w W2) := hM2
  have HR2 : Hid (W2.rowIs (w.heap.size + 2) 43 2 (fun _ => .int .i64 0)) := hrow2
  have HSz : Hid (W2.heap.size = W1.heap.size + 3) := hsz
  clear hW2 hM2 hb0 hb1 hbg hsz hrow2 hkeep hIn hh0 hh1'
  go_wp2_with fail
  rw [← HW2.out]
  refine (choose_walk lo hi W2 (fun f => W1.heap.size + f) sb sa sc n L G S (W1.heap.size + 2) ea ta nE cE nT cT E st T fp A HIn.out).mono ?_
  rintro e w3 ⟨rfl, hM3, hsel3, hfit3⟩
  have hW := HW.out
  have hSz := HSz.out
  have hhi : hi ≤ w.heap.size := H.out.hiw
  have hr3 : w3.rowIs (w.heap.size + 2) 43 2 (fun _ => .int .i64 0) := HR2.out.of_block (hM3.above _ (by omega) (by omega))
  have hr0 := hr3.cell (i := 0) (by omega)
  have hr1 := hr3.cell (i := 1) (by omega)
  have hz := hr3.frozen
  obtain ⟨X0, hX0⟩ : ∃ x, x = bsm E st n L 0 G := ⟨_, rfl⟩
  obtain ⟨X1, hX1⟩ : ∃ x, x = bsm E st n L 1 G := ⟨_, rfl⟩
  rw [← hX0, ← hX1]
  have HX0 : Hid (X0 = bsm E st n L 0 G) := hX0
  have HX1 : Hid (X1 = bsm E st n L 1 G) := hX1
  have HR3 : Hid (w3.rowIs (w.heap.size + 2) 43 2 (fun _ => .int .i64 0)) := hr3
  have HM3 : Hid (Mid lo hi w w3) := HM2.out.trans hM3
  have HS3 : Hid (∀ f, f < 2 → 0 < G → w3.rowIs (sb f) 5 G (fun i => .int .u8 (nw E st n L f i : Nat))) := hsel3
  have HF3 : Hid (∀ bf, fp = some bf → w3.rowIs bf 34 3096 (fun p => .int .i64 (wrap64 (A p + dl E st n L S p G)))) := hfit3
  clear hX0 hX1 hr3 hM3 hsel3 hfit3 hSz hW
  go_wp2_with fail
  obtain ⟨W9, hW9⟩ : ∃ W, W = ((w3.setCell ⟨w.heap.size + 2, 0, none⟩ (.int .i64 (X0 : Nat))).setCell ⟨w.heap.size + 2, 1, none⟩ (.int .i64 (X1 : Nat))) := ⟨_, rfl⟩
  refine Eq.mp (congrArg (fun W => bodyPost Try.prog Try.f19 (ChooseSays lo hi w sb n L G S E st fp A) Exit.ret _ W) hW9) ?_
  have hrow : W9.rowIs (w.heap.size + 2) 43 2 (fun i => if i = 1 then .int .i64 (X1 : Nat) else if i = 0 then .int .i64 (X0 : Nat) else .int .i64 0) := by
    rw [hW9]; exact set2 HR3.out 0 1 _ _
  obtain ⟨c, hc1, hc2, hc3⟩ := hrow
  have hcc : c = #[.int .i64 (X0 : Nat), .int .i64 (X1 : Nat)] := by
    apply Array.ext_getElem?
    intro i
    by_cases hi2 : i < 2
    · rw [hc3 i hi2]
      match i, hi2 with
      | 0, _ => rfl
      | 1, _ => rfl
    · rw [Array.getElem?_eq_none (by omega), Array.getElem?_eq_none (by simp; omega)]
  rw [hcc] at hc1
  have hne : ∀ b, b < w.heap.size → W9.heap[b]? = w3.heap[b]? := fun b hb => by
    rw [hW9, Below.heap_setCell _ _ _ _ (by show b ≠ w.heap.size + 2; omega), Below.heap_setCell _ _ _ _ (by show b ≠ w.heap.size + 2; omega)]
  have hM9 : Mid lo hi w W9 := by
    rw [hW9]
    exact (HM3.out.set (by show lo ≤ w.heap.size + 2; omega) (.inr (by show w.heap.size ≤ w.heap.size + 2; omega)) _).set (by show lo ≤ w.heap.size + 2; omega) (.inr (by show w.heap.size ≤ w.heap.size + 2; omega)) _
  refine bodyPost_ret (v := .agg #[.int .i64 (X0 : Nat), .int .i64 (X1 : Nat)]) (results_cell_row (P := Try.prog) (p := 18) (ty := 43) rfl _ _ (w.heap.size + 2) 43 _ (0, 0) _ rfl hc1 Try.underlying43 rfl (zero_of_info Try.zinfo43).2) rfl ⟨?_, hM9, fun f hf hG => ?_, fun bf hb => ?_⟩
  · rw [HX0.out, HX1.out]
  · have hs := (H.out.sel f hf hG).2.2.1
    exact (HS3.out f hf hG).of_block (hne _ (by omega))
  · have hs := (H.out.fit bf hb).2.1
    exact (HF3.out bf hb).of_block (hne _ (by omega))
end Go.Proofs.Qxb6601576a
