import Derived.Test.Qxb6601576aSmall5
namespace Go.Proofs.Qxb6601576a
open Go.RowKit

/-- n cells from the address a on hold f 0, f 1, .. ; the block is below hi. -/
def CB (hi : Nat) (w : World) (a : Option Addr) (n : Nat) (f : Nat → Value) : Prop :=
  n ≤ 9223372036854775807 ∧ (n = 0 ∨ ∃ b o, a = some ⟨b, o, none⟩ ∧ b < hi ∧ ∀ i, i < n → w.cell? ⟨b, o + i, none⟩ = some (f i))
theorem CB.below {hi : Nat} {w w' : World} {a : Option Addr} {n : Nat} {f : Nat → Value} (h : CB hi w a n f) (k : Below hi w w') : CB hi w' a n f := by
  refine ⟨h.1, h.2.imp id ?_⟩
  rintro ⟨b, o, e, hl, hc⟩
  exact ⟨b, o, e, hl, fun i hi => (k.cell (p := ⟨b, o + i, none⟩) hl).trans (hc i hi)⟩
theorem CB.at {hi : Nat} {w : World} {a : Option Addr} {n : Nat} {f : Nat → Value} (h : CB hi w a n f) {i : Nat} (hi' : i < n) : ∃ b o, a = some ⟨b, o, none⟩ ∧ b < hi ∧ w.cell? ⟨b, o + i, none⟩ = some (f i) := by
  rcases h.2 with h | ⟨b, o, e, hl, hc⟩
  · omega
  · exact ⟨b, o, e, hl, hc i hi'⟩
theorem CB.up {hi hi' : Nat} {w : World} {a : Option Addr} {n : Nat} {f : Nat → Value} (h : CB hi w a n f) (k : hi ≤ hi') : CB hi' w a n f := by
  refine ⟨h.1, h.2.imp id ?_⟩
  rintro ⟨b, o, e, hl, hc⟩
  exact ⟨b, o, e, Nat.lt_of_lt_of_le hl k, hc⟩
theorem CB.cs {hi : Nat} {w : World} {a : Option Addr} {n : Nat} {f : Nat → Value} (h : CB hi w a n f) : CS 0 w a n f := by
  refine ⟨h.1, h.2.imp id ?_⟩
  rintro ⟨b, o, e, hl, hc⟩
  exact ⟨b, o, e, Nat.zero_le _, hc⟩
theorem CB.congr {hi : Nat} {w : World} {a : Option Addr} {n : Nat} {f g : Nat → Value} (h : CB hi w a n f) (e : ∀ i, i < n → f i = g i) : CB hi w a n g := by
  refine ⟨h.1, h.2.imp id ?_⟩
  rintro ⟨b, o, ea, hl, hc⟩
  exact ⟨b, o, ea, hl, fun i hi => by rw [hc i hi, e i hi]⟩
theorem OwnRow.cb {lo hi : Nat} {w : World} {a : Option Addr} {t : TypeId} {n : Nat} {f : Nat → Value} (h : OwnRow lo w a t n f) (hn : n ≤ 9223372036854775807) (hh : w.heap.size ≤ hi) : CB hi w a n f := by
  rcases h with ⟨rfl, rfl⟩ | ⟨b, rfl, hl, hr⟩
  · exact ⟨hn, .inl rfl⟩
  · exact ⟨hn, .inr ⟨b, 0, rfl, Nat.lt_of_lt_of_le hr.lt hh, fun i hi => by rw [Nat.zero_add]; exact hr.cell hi⟩⟩

/-- Blocks below lo, and those from hi on that were there, are kept. -/
structure Mid (lo hi : Nat) (w w' : World) : Prop where
  below : Below lo w w'
  above : ∀ b, hi ≤ b → b < w.heap.size → w'.heap[b]? = w.heap[b]?
theorem Mid.refl (lo hi : Nat) (w : World) : Mid lo hi w w := ⟨Below.refl _ _, fun _ _ _ => rfl⟩
theorem Mid.set {lo hi : Nat} {w w' : World} (h : Mid lo hi w w') {p : Addr} (h1 : lo ≤ p.block) (h2 : p.block < hi ∨ w.heap.size ≤ p.block) (v : Value) : Mid lo hi w (w'.setCell p v) :=
  ⟨h.below.setCell h1 v, fun b hb hs => (Below.heap_setCell _ _ _ _ (by omega)).trans (h.above b hb hs)⟩
theorem Mid.alloc {lo hi : Nat} {w w' : World} (h : Mid lo hi w w') (hl : lo ≤ w.heap.size) (o : Obj) : Mid lo hi w (w'.alloc o) :=
  ⟨h.below.alloc (Nat.le_trans hl h.below.size) o, fun b hb hs => (Below.heap_alloc _ _ _ (Nat.lt_of_lt_of_le hs h.below.size)).trans (h.above b hb hs)⟩
theorem Mid.drawn {lo hi : Nat} {w w' w'' : World} (h : Mid lo hi w w') (k : Drawn w' w'') : Mid lo hi w w'' := by
  obtain ⟨q, rfl⟩ := k
  exact ⟨⟨h.below.os, h.below.tape, h.below.output, h.below.size, h.below.block⟩, h.above⟩
theorem Mid.cell {lo hi : Nat} {w w' : World} (h : Mid lo hi w w') {p : Addr} {v : Value} (hp : p.block < lo ∨ hi ≤ p.block) (hc : w.cell? p = some v) : w'.cell? p = some v := by
  rcases hp with hp | hp
  · exact (h.below.cell (p := p) hp).trans hc
  · exact (World.cell?_of_block (h.above _ hp (World.block_lt_of_cell? _ _ hc))).trans hc

theorem Mid.drew {lo hi : Nat} {w w' : World} (h : Mid lo hi w w') : Mid lo hi w w'.drew := ⟨⟨h.below.os, h.below.tape, h.below.output, h.below.size, h.below.block⟩, h.above⟩
/-- A name for the world. -/
theorem wp_world {P : Program} {c : Code} {Q : Exit → Act → World → Prop} {a : Act} {w : World} (h : ∀ W, W = w → c.wp P Q a W) : c.wp P Q a w := h _ rfl

/-- The counts of the two fits: cell f*1548 + t*258 + s. -/
def tl (E st : Nat → Nat) (S0 S1 : Nat → Nat) (p g : Nat) : Int := tal E st (if p < 1548 then S0 else S1) (p % 1548 / 258) (p % 258) g
/-- With the first j entries of group g. -/
def tlj (E st : Nat → Nat) (S0 S1 : Nat → Nat) (p g j : Nat) : Int :=
  tl E st S0 S1 p g + if (if p < 1548 then S0 else S1) g = p % 1548 / 258 then cnt E (st g) (p % 258) j else 0

theorem tlj_zero (E st : Nat → Nat) (S0 S1 : Nat → Nat) (p g : Nat) : tlj E st S0 S1 p g 0 = tl E st S0 S1 p g := by simp [tlj, cnt]
theorem tlj_full (E st : Nat → Nat) (S0 S1 : Nat → Nat) (p g : Nat) : tlj E st S0 S1 p g (st (g + 1) - st g) = tl E st S0 S1 p (g + 1) := by simp [tlj, tl, tal]
theorem tlj_step (E st : Nat → Nat) (S0 S1 : Nat → Nat) (p g j : Nat) (hp : p < 3096) (h0 : S0 g < 6) (h1 : S1 g < 6) (hs : E (st g + j) / 64 < 258) :
    tlj E st S0 S1 p g (j + 1) = tlj E st S0 S1 p g j + if p = S0 g * 258 + E (st g + j) / 64 ∨ p = 1548 + S1 g * 258 + E (st g + j) / 64 then ((E (st g + j) % 64 : Nat) : Int) else 0 := by
  unfold tlj
  rw [cnt]
  by_cases hp0 : p < 1548
  · simp only [hp0, if_true]
    have e : p % 1548 = p := Nat.mod_eq_of_lt hp0
    rw [e]
    by_cases h : p = S0 g * 258 + E (st g + j) / 64
    · rw [if_pos (show S0 g = p / 258 by omega), if_pos (show E (st g + j) / 64 = p % 258 by omega), if_pos (Or.inl h), if_pos (show S0 g = p / 258 by omega)]
      omega
    · rw [if_neg (show ¬ (p = S0 g * 258 + E (st g + j) / 64 ∨ p = 1548 + S1 g * 258 + E (st g + j) / 64) by omega)]
      by_cases h2 : S0 g = p / 258
      · rw [if_pos h2, if_pos h2, if_neg (show ¬ E (st g + j) / 64 = p % 258 by omega)]; omega
      · rw [if_neg h2, if_neg h2]; omega
  · simp only [hp0, if_false]
    have e : p % 1548 = p - 1548 := by omega
    rw [e]
    by_cases h : p = 1548 + S1 g * 258 + E (st g + j) / 64
    · rw [if_pos (show S1 g = (p - 1548) / 258 by omega), if_pos (show E (st g + j) / 64 = p % 258 by omega), if_pos (Or.inr h), if_pos (show S1 g = (p - 1548) / 258 by omega)]
      omega
    · rw [if_neg (show ¬ (p = S0 g * 258 + E (st g + j) / 64 ∨ p = 1548 + S1 g * 258 + E (st g + j) / 64) by omega)]
      by_cases h2 : S1 g = (p - 1548) / 258
      · rw [if_pos h2, if_pos h2, if_neg (show ¬ E (st g + j) / 64 = p % 258 by omega)]; omega
      · rw [if_neg h2, if_neg h2]; omega

/-- A cell of the counts. -/
def fc (A : Nat → Int) (sg : Int) (x : Nat → Int) (p : Nat) : Value := .int .i64 (wrap64 (A p + sg * x p))

theorem wrap64_add (x y : Int) : wrap64 (wrap64 x + y) = wrap64 (x + y) := by unfold wrap64; omega
theorem wrap64_sub (x y : Int) : wrap64 (wrap64 x - y) = wrap64 (x - y) := by unfold wrap64; omega

/-- The groups fit: the starts climb, below nE; symbols below 258. -/
structure Grp (E st : Nat → Nat) (T : Nat → Int) (G nE nT : Nat) : Prop where
  hnT : 0 < G → G + 1 ≤ nT
  hst : ∀ g, g ≤ G → 0 < G → T g = (st g : Nat)
  le : ∀ g, g ≤ G → 0 < G → st g ≤ nE
  up : ∀ g, g < G → st g ≤ st (g + 1)
  sym : ∀ g, g < G → ∀ j, j < st (g + 1) - st g → E (st g + j) / 64 < 258
  hto : ∀ g, g < G → tot E (st g) (st (g + 1) - st g) ≤ 81
  e16 : ∀ i, i < nE → E i < 65536
  hnE : nE ≤ 16384
  gG : G ≤ 4096

theorem set2 {w : World} {bf n : Nat} {t : TypeId} {f : Nat → Value} (h : w.rowIs bf t n f) (p q : Nat) (x y : Value) : ((w.setCell ⟨bf, p, none⟩ x).setCell ⟨bf, q, none⟩ y).rowIs bf t n (fun i => if i = q then y else if i = p then x else f i) :=
  (h.set p x).set q y

set_option maxHeartbeats 1000000 in
set_option maxRecDepth 100000 in
theorem tally_walk (w : World) (bf : Nat) (ea ta a0 a1 : Option Addr) (nE cE nT cT G c0 c1 : Nat) (E st S0 S1 : Nat → Nat) (T : Nat → Int) (sg : Int) (x0 : Nat → Int)
    (hE : CB bf w ea nE (fun i => .int .u16 (E i : Nat))) (hT : CB bf w ta nT (fun i => .int .i32 (T i))) (h0 : CB bf w a0 G (fun i => .int .u8 (S0 i : Nat))) (h1 : CB bf w a1 G (fun i => .int .u8 (S1 i : Nat)))
    (hG : Grp E st T G nE nT) (hS0 : ∀ g, g < G → S0 g < 6) (hS1 : ∀ g, g < G → S1 g < 6) (hsg : sg = 1 ∨ sg = -1)
    (hF : w.rowIs bf 34 3096 (fun p => .int .i64 (x0 p))) (hx0 : ∀ p, p < 3096 → wrap64 (x0 p) = x0 p) :
    Calls Try.prog 21 #[.pointer (some ⟨bf, 0, none⟩), .slice ea nE cE, .slice ta nT cT, .slice a0 G c0, .slice a1 G c1, .int .i64 sg] w fun e w' =>
      (∃ v, e = .returned v) ∧ Mid bf (bf + 1) w w' ∧ w'.rowIs bf 34 3096 (fc x0 sg (fun p => tl E st S0 S1 p G)) := by
  go_enter Try.func21, Try.ntmps21
  go_wp2_with fail
  go_loopg [12] G (fun g i wr => ∃ k : Nat, k + g = G ∧ i = .int .i64 k ∧ Mid bf (bf + 1) w wr ∧ wr.rowIs bf 34 3096 (fc x0 sg (fun p => tl E st S0 S1 p k)))
  case atStart => exact ⟨0, by omega, rfl, Mid.refl _ _ _, hF.congr (fun p hp => by simp [fc, tl, tal, hx0 p hp])⟩
  case round =>
    obtain ⟨k, hk, rfl, hM, hR⟩ := hrel
    have HK : Hid (k + gk = G) := hk
    have HM : Hid (Mid bf (bf + 1) w wr) := hM
    have HR : Hid (wr.rowIs bf 34 3096 (fc x0 sg (fun p => tl E st S0 S1 p k))) := hR
    by_cases hkG : k < G
    · have hkG' : (k : Int) < G := by omega
      rename World => wo
      obtain ⟨g0, hg0⟩ : ∃ g0, g0 = gk := ⟨_, rfl⟩
      have HG0 : Hid (g0 = gk) := hg0
      obtain ⟨tb, tof, rfl, htb, ht1⟩ := (hT.below hM.below).at (show k < nT by have := hG.hnT (by omega); omega)
      have htk := hG.hst k (by omega) (by omega)
      have hek := hG.le k (by omega) (by omega)
      have hup := hG.up k hkG
      have hek1 := hG.le (k + 1) (by omega) (by omega)
      have hnE := hG.hnE
      have hnT : k + 1 < nT := by have := hG.hnT (by omega); omega
      have hnT' : k < nT := by omega
      rw [htk] at ht1
      have hss0 := hS0 k hkG
      have hss1 := hS1 k hkG
      obtain ⟨m, hm⟩ : ∃ m, m = st (k + 1) - st k := ⟨_, rfl⟩
      have HMm : Hid (m = st (k + 1) - st k) := hm
      have hm2 : st k + m = st (k + 1) := by omega
      have hst1 := hG.hst (k + 1) (by omega) (by omega)
      clear hg0 hk hM hR htk hm
      go_wp2_with fail
      go_loopg [13] m (fun g i wr => ∃ j : Nat, j + g = m ∧ i = .int .i64 ((st k + j : Nat) : Int) ∧ Mid bf (bf + 1) w wr ∧ wr.rowIs bf 34 3096 (fc x0 sg (fun p => tlj E st S0 S1 p k j)))
      case atStart => exact ⟨0, by omega, rfl, HM.out, HR.out.congr (fun p _ => by simp [fc, tlj_zero])⟩
      case round =>
        obtain ⟨j, hj, rfl, hM, hR⟩ := hrel
        have HJ : Hid (j + gk = m) := hj
        have HM2 : Hid (Mid bf (bf + 1) w wr) := hM
        have HR2 : Hid (wr.rowIs bf 34 3096 (fc x0 sg (fun p => tlj E st S0 S1 p k j))) := hR
        have ht1 := (hT.below hM.below).at hnT
        obtain ⟨_, _, he, _, ht2⟩ := ht1
        cases he
        rw [hst1, ← hm2] at ht2
        by_cases hjm : j < m
        · have hjm' : ((st k + j : Nat) : Int) < ((st k + m : Nat) : Int) := by omega
          obtain ⟨eb, eo, rfl, heb, hc⟩ := (hE.below hM.below).at (show st k + j < nE by omega)
          obtain ⟨sb0, so0, rfl, hsb0, hc0⟩ := (h0.below hM.below).at hkG
          obtain ⟨sb1, so1, rfl, hsb1, hc1⟩ := (h1.below hM.below).at hkG
          have hgG := hG.gG
          have he16 := hG.e16 (st k + j) (by omega)
          have hsj := hG.sym k hkG j (by have := HMm.out; omega)
          have hand := u16_and63 (E (st k + j)) he16
          have hr0 := hR.cell (i := S0 k * 258 + E (st k + j) / 64) (by omega)
          have hfz := hR.frozen
          clear hj hM hR hE hT h0 h1 hF hG
          rw [fc] at hr0
          go_wp2_with fail
          go_region
          go_wp2_with fail
          refine wp_world (fun W1 hW1 => ?_)
          obtain ⟨v0, hv0⟩ : ∃ v0 : Int, v0 = wrap64 (wrap64 (x0 (S0 k * 258 + E (st k + j) / 64) + sg * tlj E st S0 S1 (S0 k * 258 + E (st k + j) / 64) k j) + wrap64 (sg * (((E (st k + j) : Nat) : Int) % 64))) := ⟨_, rfl⟩
          have hR1 : W1.rowIs bf 34 3096 (fun i => if i = S0 k * 258 + E (st k + j) / 64 then .int .i64 v0 else fc x0 sg (fun p => tlj E st S0 S1 p k j) i) := by
            rw [hW1, hv0]; exact HR2.out.set _ _
          have hM1 : Mid bf (bf + 1) w W1 := by
            rw [hW1]; exact (HM2.out.set (Nat.le_refl _) (.inl (Nat.lt_succ_self _)) _).drew
          have hc1' : W1.cell? ⟨sb1, so1 + k, none⟩ = some (.int .u8 (S1 k : Nat)) := by
            rw [hW1]; exact (cell_setCell_other (show sb1 ≠ bf by omega)).trans hc1
          have hr1 := hR1.cell (i := 1548 + S1 k * 258 + E (st k + j) / 64) (by omega)
          rw [if_neg (by omega), fc] at hr1
          have hfz1 := hR1.frozen
          have HV0 : Hid (v0 = wrap64 (wrap64 (x0 (S0 k * 258 + E (st k + j) / 64) + sg * tlj E st S0 S1 (S0 k * 258 + E (st k + j) / 64) k j) + wrap64 (sg * (((E (st k + j) : Nat) : Int) % 64)))) := hv0
          have HR1 : Hid (W1.rowIs bf 34 3096 (fun i => if i = S0 k * 258 + E (st k + j) / 64 then .int .i64 v0 else fc x0 sg (fun p => tlj E st S0 S1 p k j) i)) := hR1
          have HM1 : Hid (Mid bf (bf + 1) w W1) := hM1
          clear hv0 hR1 hM1 hW1 hc hc0 hc1 hr0 hfz ht2
          go_region
          go_wp2_with fail
          have hj := HJ.out
          go_roundg (gk - 1)
          case rel =>
            refine ⟨j + 1, by omega, by go_num, (HM1.out.set (Nat.le_refl _) (.inl (Nat.lt_succ_self _)) _).drew, ?_⟩
            refine World.rowIs.congr (HR1.out.set _ _) (fun p hp => ?_)
            have hsgm : wrap64 (sg * (((E (st k + j) : Nat) : Int) % 64)) = sg * ((E (st k + j) % 64 : Nat) : Int) := by
              rw [IntWalk.wrap64_in _ (by rcases hsg with rfl | rfl <;> omega)]; rcases hsg with rfl | rfl <;> omega
            unfold fc
            dsimp only
            rw [tlj_step E st S0 S1 p k j hp hss0 hss1 hsj, Int.mul_add, ← Int.add_assoc]
            by_cases hp1 : p = 1548 + S1 k * 258 + E (st k + j) / 64
            · rw [if_pos hp1, if_pos (Or.inr hp1), hsgm, wrap64_add, hp1]
            · rw [if_neg hp1]
              by_cases hp0 : p = S0 k * 258 + E (st k + j) / 64
              · rw [if_pos hp0, if_pos (Or.inl hp0), HV0.out, hsgm, wrap64_add, hp0]
              · rw [if_neg hp0, if_neg (by omega), Int.mul_zero, Int.add_zero]
          case measure => omega
        · have hjm2 : j = m := by omega
          subst hjm2
          have hjm' : ¬ (((st k + j : Nat) : Int) < ((st k + j : Nat) : Int)) := by omega
          have hgG := hG.gG
          clear hj hM hR hE hT h0 h1 hF hG
          go_wp2_with fail
          have hk := HK.out
          go_roundg (G - (k + 1))
          case rel =>
            refine ⟨k + 1, by omega, by go_num, HM2.out, HR2.out.congr (fun p _ => ?_)⟩
            unfold fc
            dsimp only
            rw [HMm.out, tlj_full]
          case measure => have := HG0.out; omega
    · have hkG2 : k = G := by omega
      subst hkG2
      have hkG' : ¬ ((k : Int) < (k : Int)) := by omega
      clear hk
      go_wp2_with fail
      go_end0
      exact ⟨⟨_, rfl⟩, HM.out, HR.out⟩
end Go.Proofs.Qxb6601576a
