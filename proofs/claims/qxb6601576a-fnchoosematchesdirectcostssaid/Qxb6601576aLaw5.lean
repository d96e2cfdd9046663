import Derived.Test.Qxb6601576aZz5
import Derived.Test.Qxb6601576aEq5
namespace Go.Proofs.Qxb6601576a
open Go.RowKit

/-- What the law answers. -/
def Ends5 (w : World) (e : Ending) (w' : World) : Prop := e = .returned (.bool true) ∧ Below w.heap.size w w'

/-- The counts, as a value. -/
def FitArr (M : Array Value) (A : Nat → Int) : Prop := M.size = 3096 ∧ ∀ p, p < 3096 → M[p]? = some (.int .i64 (A p))

theorem FitArr.one {M : Array Value} {A : Nat → Int} (h : FitArr M A) : M.all (·.oneCell') = true := by
  rw [Array.all_eq_true_iff_forall_mem]
  intro v hv
  obtain ⟨i, hi, rfl⟩ := Array.mem_iff_getElem.1 hv
  have := h.2 i (by rw [← h.1]; exact hi)
  rw [Array.getElem?_eq_getElem hi] at this
  injection this with this
  rw [this]; rfl
theorem FitArr.ints {M : Array Value} {A : Nat → Int} (h : FitArr M A) : Ints M 0 3096 := fun i hi => ⟨A i, by rw [Nat.zero_add]; exact h.2 i hi⟩
theorem FitArr.same {M M' : Array Value} {A : Nat → Int} (h : FitArr M A) (h' : FitArr M' A) : M = M' := by
  apply Array.ext_getElem?
  intro i
  by_cases hi : i < 3096
  · rw [h.2 i hi, h'.2 i hi]
  · rw [Array.getElem?_eq_none (by rw [h.1]; omega), Array.getElem?_eq_none (by rw [h'.1]; omega)]
theorem FitArr.row {w : World} {b : Nat} {A : Nat → Int} (h : w.rowIs b 34 3096 (fun p => .int .i64 (A p))) : ∃ M, w.heap[b]? = some (.cells M 34 (0, 0)) ∧ FitArr M A := by
  obtain ⟨c, h1, h2, h3⟩ := h
  exact ⟨c, h1, h2, h3⟩
theorem LenArr.at {A : Array Value} {L : Nat → Nat → Nat} (h : LenArr A L) {w : World} {b : Nat} (hb : w.heap[b]? = some (.cells A 24 (0, 0))) : LensAt w b 0 L := fun t s ht hs => by
  rw [cell_of_row _ _ (0 + (t * 258 + s)) _ 24 (0, 0) hb, Nat.zero_add, h.2 _ (by omega), show (t * 258 + s) / 258 = t by omega, show (t * 258 + s) % 258 = s by omega]

/-- One for the first fit, the other for the second. -/
def two {α : Type} (a b : α) : Nat → α
  | 0 => a
  | _ + 1 => b

theorem OwnRow.pick {lo : Nat} {w : World} {a : Option Addr} {t : TypeId} {n : Nat} {f : Nat → Value} (h : OwnRow lo w a t n f) : ∃ b, lo ≤ b ∧ (0 < n → a = some ⟨b, 0, none⟩ ∧ b < w.heap.size ∧ w.rowIs b t n f) := by
  rcases h with ⟨rfl, rfl⟩ | ⟨b, rfl, hl, hr⟩
  · exact ⟨lo, Nat.le_refl _, fun h => by omega⟩
  · exact ⟨b, hl, fun _ => ⟨rfl, hr.lt, hr⟩⟩

set_option maxHeartbeats 2000000 in
set_option maxRecDepth 100000 in
theorem law5 (w : World) (A0 A1 AF : Array Value) (L0 L1 : Nat → Nat → Nat) (A : Nat → Int) (m0 m1 : Int) (uf : Bool) (a0 a1 ea ta : Option Addr) (N0 c0 N1 c1 nE cE nT cT : Nat) (S0 S1 E : Nat → Nat) (T : Nat → Int)
    (hA0 : LenArr A0 L0) (hA1 : LenArr A1 L1) (hAF : FitArr AF A) (hAw : ∀ p, p < 3096 → wrap64 (A p) = A p)
    (hS0 : BS 0 w a0 N0 S0) (hS1 : BS 0 w a1 N1 S1) (hE : ES 0 w ea nE E) (hT : TS 0 w ta nT T) (hE16 : ∀ i, i < nE → E i < 65536) (hT32 : ∀ i, i < nT → -2147483648 ≤ T i ∧ T i ≤ 2147483647) :
    Calls Try.prog 5 #[.int .i64 m0, .agg A0, .slice a0 N0 c0, .int .i64 m1, .agg A1, .slice a1 N1 c1, .slice ea nE cE, .slice ta nT cT, .bool uf, .agg AF] w (Ends5 w) := by
  have i0 : (Try.prog.info? 24).map (·.size) = some A0.size := by rw [hA0.1]; kernel_rfl
  have i1 : (Try.prog.info? 24).map (·.size) = some A1.size := by rw [hA1.1]; kernel_rfl
  have iF : (Try.prog.info? 34).map (·.size) = some AF.size := by rw [hAF.1]; kernel_rfl
  have HS0 : Hid (BS 0 w a0 N0 S0) := hS0
  have HS1 : Hid (BS 0 w a1 N1 S1) := hS1
  have HE : Hid (ES 0 w ea nE E) := hE
  have HT : Hid (TS 0 w ta nT T) := hT
  have HA0 : Hid (LenArr A0 L0) := hA0
  have HA1 : Hid (LenArr A1 L1) := hA1
  have HAF : Hid (FitArr AF A) := hAF
  have q0 := hS0.1
  have q1 := hS1.1
  have qE := hE.1
  have qT := hT.1
  clear hS0 hS1 hE hT hA0 hA1 hAF
  go_enter Try.func5, Try.ntmps5
  go_upto_region 1 with fail
  refine wp_world (fun W0 hW0 => ?_)
  have hB0 : Below w.heap.size w W0 := by rw [hW0]; exact (((Below.refl _ _).alloc (Nat.le_refl _) _).alloc (by simp) _).alloc (by simp; omega) _
  have hh0 : W0.heap[w.heap.size]? = some (.cells A0 24 (0, 0)) := by
    rw [hW0, Below.heap_alloc _ _ _ (by simp; omega), Below.heap_alloc _ _ _ (by simp)]; exact heap_alloc_new w _
  have hh1 : W0.heap[w.heap.size + 1]? = some (.cells A1 24 (0, 0)) := by
    rw [hW0, Below.heap_alloc _ _ _ (by simp)]
    have := heap_alloc_new (w.alloc (.cells A0 24)) (.cells A1 24)
    rw [show (w.alloc (.cells A0 24)).heap.size = w.heap.size + 1 by simp] at this
    exact this
  have hhF : W0.heap[w.heap.size + 2]? = some (.cells AF 34 (0, 0)) := by
    rw [hW0]
    have := heap_alloc_new ((w.alloc (.cells A0 24)).alloc (.cells A1 24)) (.cells AF 34)
    rw [show ((w.alloc (.cells A0 24)).alloc (.cells A1 24)).heap.size = w.heap.size + 2 by simp] at this
    exact this
  have hsz : W0.heap.size = w.heap.size + 3 := by rw [hW0]; simp
  have HB0 : Hid (Below w.heap.size w W0) := hB0
  have HSz : Hid (W0.heap.size = w.heap.size + 3) := hsz
  have HH0 : Hid (W0.heap[w.heap.size]? = some (.cells A0 24 (0, 0))) := hh0
  have HH1 : Hid (W0.heap[w.heap.size + 1]? = some (.cells A1 24 (0, 0))) := hh1
  have HHF : Hid (W0.heap[w.heap.size + 2]? = some (.cells AF 34 (0, 0))) := hhF
  clear hW0 hB0 hsz
  go_wp2_with (first | (refine wpList_load_row rfl 24 (.tmp 11) rfl w.heap.size rfl 24 A0 (0, 0) _ hh0 Try.underlying24 rfl i0 ?_) | (refine wpList_load_row rfl 24 (.tmp 14) rfl (w.heap.size + 1) rfl 24 A1 (0, 0) _ hh1 Try.underlying24 rfl i1 ?_) | (refine wpList_load_row rfl 34 (.tmp 19) rfl (w.heap.size + 2) rfl 34 AF (0, 0) _ hhF Try.underlying34 rfl iF ?_) | fail)
  refine (bytes_walk W0 A0 A1 AF m0 m1 uf a0 a1 ea ta N0 c0 N1 c1 nE cE nT cT q0 q1 qE qT).mono ?_
  rintro e w1 ⟨⟨b, rfl⟩, hb1⟩
  have HB1 : Hid (Below W0.heap.size W0 w1) := hb1
  have HB : Hid (Below w.heap.size w w1) := HB0.out.trans (hb1.mono HB0.out.size)
  clear hb1 hh0 hh1 hhF
  cases b with
  | false =>
    go_wp2_with fail
    go_ret
    exact ⟨rfl, HB.out⟩
  | true =>
  by_cases t0 : (4096 : Int) < N0
  · go_wp2_with fail
    go_ret
    exact ⟨rfl, HB.out⟩
  have t0' : decide ((4096 : Int) < N0) = false := decide_eq_false t0
  by_cases t1 : (4096 : Int) < N1
  · go_wp2_with fail
    go_ret
    exact ⟨rfl, HB.out⟩
  have t1' : decide ((4096 : Int) < N1) = false := decide_eq_false t1
  by_cases t2 : (16384 : Int) < nE
  · go_wp2_with fail
    go_ret
    exact ⟨rfl, HB.out⟩
  have t2' : decide ((16384 : Int) < nE) = false := decide_eq_false t2
  by_cases t3 : (8192 : Int) < nT
  · go_wp2_with fail
    go_ret
    exact ⟨rfl, HB.out⟩
  have t3' : ¬ (8192 : Int) < nT := t3
  have t4 : ¬ (1048576 : Int) < (N0 : Nat) + (N1 : Nat) + 2 * (nE : Nat) + 4 * (nT : Nat) := by omega
  go_upto_region 7 with fail
  have hK1 : Keeps w w1 := Keeps.below HB.out
  have hh0 : w1.heap[w.heap.size]? = some (.cells A0 24 (0, 0)) := (HB1.out.block _ (by have := HSz.out; omega)).trans HH0.out
  have hh1 : w1.heap[w.heap.size + 1]? = some (.cells A1 24 (0, 0)) := (HB1.out.block _ (by have := HSz.out; omega)).trans HH1.out
  have hhF : w1.heap[w.heap.size + 2]? = some (.cells AF 34 (0, 0)) := (HB1.out.block _ (by have := HSz.out; omega)).trans HHF.out
  have hw1 : w.heap.size + 3 ≤ w1.heap.size := by have := HSz.out; have := HB1.out.size; omega
  by_cases hin : ¬ (1 ≤ m0 ∧ m0 ≤ 6 ∧ 1 ≤ m1 ∧ m1 ≤ 6 ∧ N1 = N0)
  · go_wp2_with fail
    refine (fits_out w1 _ _ _ _ m0 m1 N0 N1 False hin).mono ?_
    rintro e w2 ⟨hD, b, rfl, himp⟩
    cases b with
    | true => exact (himp rfl).elim
    | false =>
      have HD : Hid (Drawn w1 w2) := hD
      clear hD
      go_wp2_with fail
      go_ret
      exact ⟨rfl, HB.out.trans (HD.out.below.mono HB.out.size)⟩
  obtain ⟨r1, r2, r3, r4, rfl⟩ := Decidable.not_not.1 hin
  clear hin
  obtain ⟨n0, rfl⟩ := Int.eq_ofNat_of_zero_le (show 0 ≤ m0 by omega)
  obtain ⟨n1, rfl⟩ := Int.eq_ofNat_of_zero_le (show 0 ≤ m1 by omega)
  go_wp2_with fail
  refine (fits_in w1 w.heap.size (w.heap.size + 1) L0 L1 n0 n1 N1 nE cE nT cT ea ta E T (HA0.out.at hh0) (HA1.out.at hh1) (HE.out.keeps hK1) (HT.out.keeps hK1) hE16 hT32 (by omega) (by omega) (by omega) (by omega) (by omega) (by omega) (by omega)).mono ?_
  rintro e w2 ⟨hD, b, rfl, himp⟩
  cases b with
  | false =>
    have HD : Hid (Drawn w1 w2) := hD
    clear hD
    go_wp2_with fail
    go_ret
    exact ⟨rfl, HB.out.trans (HD.out.below.mono HB.out.size)⟩
  | true =>
  have hFit := himp rfl
  have HFit : Hid (Fit E T n0 n1 L0 L1 N1 nE nT) := hFit
  have HB2 : Hid (Below w.heap.size w w2) := HB.out.trans (hD.below.mono HB.out.size)
  have hK2 : Keeps w w2 := Keeps.below HB2.out
  have hb12 : ∀ b : Nat, w2.heap[b]? = w1.heap[b]? := fun b => by obtain ⟨q, rfl⟩ := hD; rfl
  have HH0' : Hid (w2.heap[w.heap.size]? = some (.cells A0 24 (0, 0))) := (hb12 _).trans hh0
  have HH1' : Hid (w2.heap[w.heap.size + 1]? = some (.cells A1 24 (0, 0))) := (hb12 _).trans hh1
  have HHF' : Hid (w2.heap[w.heap.size + 2]? = some (.cells AF 34 (0, 0))) := (hb12 _).trans hhF
  have hw2 : w.heap.size + 3 ≤ w2.heap.size := by have := hD.below.size; omega
  clear himp hFit hD hb12 hh0 hh1 hhF hK1 HB1 HB HH0 HH1 HHF HSz HB0 hw1 t0 t0' t1 t1' t2' t3' t4
  have hs0 := HS0.out.keeps hK2
  have hs1 := HS1.out.keeps hK2
  go_upto_region 9 with fail
  go_cut [98] (fun v w' => w' = w2 ∧ ∃ b, v = .bool b ∧ (b = false → uf = true → (∀ g, g < N1 → S0 g < 6) ∧ ∀ g, g < N1 → S1 g < 6))
  case first =>
    cases uf with
    | false =>
      go_wp2_with fail
      go_meet
      case rel => exact ⟨rfl, _, rfl, fun _ h => by cases h⟩
    | true =>
      go_wp2_with fail
      refine (selBelow_walk a0 N1 c0 S0 w2 hs0).mono ?_
      rintro e w3 ⟨hw3, b, rfl, hb⟩
      rw [hw3]; clear hw3
      cases b with
      | false =>
        go_wp2_with fail
        go_meet
        case rel => exact ⟨rfl, _, rfl, fun h => by cases h⟩
      | true =>
        have hb' := hb rfl
        have HBB : Hid (∀ i, i < N1 → S0 i < 6) := hb'
        clear hb hb'
        go_wp2_with fail
        refine (selBelow_walk a1 N1 c1 S1 w2 hs1).mono ?_
        rintro e w3 ⟨hw3, b, rfl, hb⟩
        rw [hw3]; clear hw3
        cases b with
        | false =>
          clear hb
          go_wp2_with fail
          go_meet
          case rel => exact ⟨rfl, _, rfl, fun h => by cases h⟩
        | true =>
          have hb' := hb rfl
          have HBC : Hid (∀ i, i < N1 → S1 i < 6) := hb'
          clear hb hb'
          go_wp2_with fail
          go_meet
          case rel => exact ⟨rfl, _, rfl, fun _ _ => ⟨HBB.out, HBC.out⟩⟩
  case rest =>
  obtain ⟨hw, b, rfl, hsel⟩ := hcut
  rw [hw]; clear hw
  cases b with
  | true =>
    clear hsel
    go_wp2_with fail
    go_ret
    exact ⟨rfl, HB2.out⟩
  | false =>
  have HSel : Hid (uf = true → (∀ g, g < N1 → S0 g < 6) ∧ ∀ g, g < N1 → S1 g < 6) := hsel rfl
  clear hsel
  have hG : N1 ≤ 4096 := HFit.out.grp.gG
  have hnE : nE ≤ 16384 := HFit.out.grp.hnE
  have hnT : nT ≤ 8192 := by omega
  clear t2 t3
  go_wp2_with fail
  refine (clone16 (S := fun i => ((S0 i : Nat) : Int)) (by omega) hs0).mono ?_
  rintro e w3 ⟨s0a, rfl, o3, b3⟩
  have cs1 : CS 0 w3 a1 N1 (fun i => .int .u8 ((S1 i : Nat) : Int)) := hs1.keeps (Keeps.below b3)
  clear hs0 hs1
  go_wp2_with fail
  refine (clone16 (S := fun i => ((S1 i : Nat) : Int)) (by omega) cs1).mono ?_
  rintro e w4 ⟨s1a, rfl, o4, b4⟩
  have csE : CS 0 w4 ea nE (fun i => .int .u16 ((E i : Nat) : Int)) := ((HE.out.keeps hK2).keeps (Keeps.below b3)).keeps (Keeps.below b4)
  clear cs1
  go_wp2_with fail
  refine (clone17 (S := fun i => ((E i : Nat) : Int)) (by omega) csE).mono ?_
  rintro e w5 ⟨ec, rfl, o5, b5⟩
  have csT : CS 0 w5 ta nT (fun i => .int .i32 (T i)) := (((HT.out.keeps hK2).keeps (Keeps.below b3)).keeps (Keeps.below b4)).keeps (Keeps.below b5)
  clear csE
  go_wp2_with fail
  refine (clone18 (S := T) (by omega) csT).mono ?_
  rintro e w6 ⟨tc, rfl, o6, b6⟩
  clear csT
  obtain ⟨lo, hlo⟩ : ∃ lo, lo = w6.heap.size := ⟨_, rfl⟩
  have z3 := b3.size
  have z4 := b4.size
  have z5 := b5.size
  have z6 := b6.size
  have d45 : Below w4.heap.size w4 w6 := b5.trans (b6.mono z5)
  have d34 : Below w3.heap.size w3 w6 := b4.trans (d45.mono z4)
  have d26 : Below w2.heap.size w2 w6 := b3.trans (d34.mono z3)
  have k0 : CB lo w6 s0a N1 (fun i => .int .u8 ((S0 i : Nat) : Int)) := ((o3.cb (hi := w3.heap.size) (by omega) (Nat.le_refl _)).below d34).up (by omega)
  have k1 : CB lo w6 s1a N1 (fun i => .int .u8 ((S1 i : Nat) : Int)) := ((o4.cb (hi := w4.heap.size) (by omega) (Nat.le_refl _)).below d45).up (by omega)
  have kE : CB lo w6 ec nE (fun i => .int .u16 ((E i : Nat) : Int)) := ((o5.cb (hi := w5.heap.size) (by omega) (Nat.le_refl _)).below b6).up (by omega)
  have kT : CB lo w6 tc nT (fun i => .int .i32 (T i)) := (o6.cb (hi := w6.heap.size) (by omega) (Nat.le_refl _)).up (by omega)
  have hec : (∃ b o, ec = some ⟨b, o, none⟩) ∨ ec = none ∧ nE = 0 := by
    rcases o5 with ⟨h1, h2⟩ | ⟨b, h1, _⟩
    · exact .inr ⟨h2, h1⟩
    · exact .inl ⟨b, 0, h1⟩
  have g0 : w6.heap[w.heap.size]? = some (.cells A0 24 (0, 0)) := (d26.block _ (by omega)).trans HH0'.out
  have g1 : w6.heap[w.heap.size + 1]? = some (.cells A1 24 (0, 0)) := (d26.block _ (by omega)).trans HH1'.out
  have gF : w6.heap[w.heap.size + 2]? = some (.cells AF 34 (0, 0)) := (d26.block _ (by omega)).trans HHF'.out
  have HB6 : Hid (Below w.heap.size w w6) := HB2.out.trans (d26.mono (by omega))
  have hlo3 : w.heap.size + 3 ≤ lo := by omega
  clear o3 o4 o5 o6 b3 b4 b5 b6 d26 d34 d45 HH0' HH1' HHF' HB2 hK2 z3 z4 z5 z6 hw2
  go_wp2_with fail
  refine (clone16 (S := fun i => ((S0 i : Nat) : Int)) (by omega) k0.cs).mono ?_
  rintro e w7 ⟨o0, rfl, o7, b7⟩
  have k1' := (k1.below (w' := w7) (by rw [hlo]; exact b7))
  go_wp2_with fail
  refine (clone16 (S := fun i => ((S1 i : Nat) : Int)) (by omega) k1'.cs).mono ?_
  rintro e w8 ⟨o1, rfl, o8, b8⟩
  have z7 := b7.size
  have z8 := b8.size
  have d68 : Below lo w6 w8 := by rw [hlo]; exact b7.trans (b8.mono z7)
  have k0 := k0.below d68
  have k1 := k1.below d68
  have kE := kE.below d68
  have kT := kT.below d68
  have g0 := (d68.block _ (by omega)).trans g0
  have g1 := (d68.block _ (by omega)).trans g1
  have gF := (d68.block _ (by omega)).trans gF
  have HB8 : Hid (Below w.heap.size w w8) := HB6.out.trans (d68.mono (by omega))
  obtain ⟨sb0, p0l, p0⟩ := o7.pick
  obtain ⟨sb1, p1l, p1⟩ := o8.pick
  have r0 : 0 < N1 → o0 = some ⟨sb0, 0, none⟩ ∧ lo ≤ sb0 ∧ sb0 < w8.heap.size ∧ w8.rowIs sb0 5 N1 (fun i => .int .u8 ((S0 i : Nat) : Int)) ∧ sb0 ≠ sb1 := fun h => by
    have := p0 h
    exact ⟨this.1, by omega, by omega, this.2.2.of_block (b8.block _ this.2.1), by omega⟩
  have r1 : 0 < N1 → o1 = some ⟨sb1, 0, none⟩ ∧ lo ≤ sb1 ∧ sb1 < w8.heap.size ∧ w8.rowIs sb1 5 N1 (fun i => .int .u8 ((S1 i : Nat) : Int)) := fun h => by
    have := p1 h
    exact ⟨this.1, by omega, this.2.1, this.2.2⟩
  have hlo8 : lo ≤ w8.heap.size := by omega
  have R0 : Hid (0 < N1 → o0 = some ⟨sb0, 0, none⟩ ∧ lo ≤ sb0 ∧ sb0 < w8.heap.size ∧ w8.rowIs sb0 5 N1 (fun i => .int .u8 ((S0 i : Nat) : Int)) ∧ sb0 ≠ sb1) := r0
  have R1 : Hid (0 < N1 → o1 = some ⟨sb1, 0, none⟩ ∧ lo ≤ sb1 ∧ sb1 < w8.heap.size ∧ w8.rowIs sb1 5 N1 (fun i => .int .u8 ((S1 i : Nat) : Int))) := r1
  have K0 : Hid (CB lo w8 s0a N1 (fun i => .int .u8 ((S0 i : Nat) : Int))) := k0
  have K1 : Hid (CB lo w8 s1a N1 (fun i => .int .u8 ((S1 i : Nat) : Int))) := k1
  have KE : Hid (CB lo w8 ec nE (fun i => .int .u16 ((E i : Nat) : Int))) := kE
  have KT : Hid (CB lo w8 tc nT (fun i => .int .i32 (T i))) := kT
  have HEC : Hid ((∃ b o, ec = some ⟨b, o, none⟩) ∨ ec = none ∧ nE = 0) := hec
  have HG0 : Hid (w8.heap[w.heap.size]? = some (.cells A0 24 (0, 0))) := g0
  have HG1 : Hid (w8.heap[w.heap.size + 1]? = some (.cells A1 24 (0, 0))) := g1
  have HGF : Hid (w8.heap[w.heap.size + 2]? = some (.cells AF 34 (0, 0))) := gF
  clear r0 r1 p0 p1 p0l p1l k0 k1 kE kT hec g0 g1 o7 o8 b7 b8 d68 z7 z8 k1' hlo HB6
  obtain ⟨Z34, hZ34⟩ : ∃ Z, Z = Array.replicate 3096 (Value.int .i64 0) := ⟨_, rfl⟩
  have z34 := zero34
  rw [← hZ34] at z34
  have HZ34 : Hid (Z34.size = 3096) := by show _ = _; rw [hZ34]; simp
  have hst : (w8.alloc (.cells Z34 34)).heap[w8.heap.size]? = some (.cells Z34 34 (0, 0)) := heap_alloc_new w8 _
  have hzs : Z34.size = AF.size := by rw [HZ34.out, HAF.out.1]
  have hone := HAF.out.one
  clear hZ34
  go_upto_region 18 with (first | (refine wpList_load_row rfl 34 (.tmp 19) rfl (w.heap.size + 2) rfl 34 AF (0, 0) _ gF Try.underlying34 rfl iF ?_) | (refine wpList_store_row rfl 34 (.tmp 23) (.tmp 111) rfl w8.heap.size AF rfl rfl 34 Z34 hst iF hzs hone ?_))
  rw [World.setRow_alloc_new]
  obtain ⟨mb, hmb⟩ : ∃ mb, mb = w8.heap.size := ⟨_, rfl⟩
  obtain ⟨W9, hW9⟩ : ∃ W, W = w8.alloc (.cells AF 34) := ⟨_, rfl⟩
  rw [← hmb, ← hW9]
  obtain ⟨fp, hfp⟩ : ∃ fp : Option Nat, fp = if uf then some mb else none := ⟨_, rfl⟩
  obtain ⟨hi, hhi⟩ : ∃ hi : Nat, hi = if uf then mb + 1 else mb := ⟨_, rfl⟩
  have hhi1 : mb ≤ hi ∧ hi ≤ mb + 1 := by rw [hhi]; cases uf <;> simp
  have hs9 : W9.heap.size = mb + 1 := by rw [hW9, hmb]; simp
  have d89 : Below mb w8 W9 := by rw [hW9, hmb]; exact (Below.refl _ _).alloc (Nat.le_refl _) _
  have hm9 : W9.heap[mb]? = some (.cells AF 34 (0, 0)) := by rw [hW9, hmb]; exact heap_alloc_new w8 _
  have hr9 : W9.rowIs mb 34 3096 (fun p => .int .i64 (A p)) := ⟨AF, hm9, HAF.out.1, HAF.out.2⟩
  have hlom : lo ≤ mb := by omega
  have hIn : In0 lo hi W9 (two sb0 sb1) (two o0 o1) (two n0 n1) (two L0 L1) N1 (two S0 S1) ec tc nE nE nT E (fun g => (T g).toNat) T fp A := by
    have hF := HFit.out
    refine ⟨by omega, by omega, fun f hf hG => ?_, fun hG => (R0.out hG).2.2.2.2, KE.out.below (d89.mono hlom), KT.out.below (d89.mono hlom), hF.grp, HEC.out, Nat.le_refl _, fun f hf => ?_, fun f hf => ?_, fun f t s hf ht hs => ?_, fun bf hb => ?_⟩
    · obtain rfl | rfl : f = 0 ∨ f = 1 := by omega
      · have := R0.out hG
        exact ⟨this.1, this.2.1, by show sb0 < hi; omega, this.2.2.2.1.of_block (d89.block _ (by omega))⟩
      · have := R1.out hG
        exact ⟨this.1, this.2.1, by show sb1 < hi; omega, this.2.2.2.of_block (d89.block _ (by omega))⟩
    · obtain rfl | rfl : f = 0 ∨ f = 1 := by omega
      · show 1 ≤ n0; omega
      · show 1 ≤ n1; omega
    · obtain rfl | rfl : f = 0 ∨ f = 1 := by omega
      · show n0 ≤ 6; omega
      · show n1 ≤ 6; omega
    · obtain rfl | rfl : f = 0 ∨ f = 1 := by omega
      · exact hF.l0 t s ht hs
      · exact hF.l1 t s ht hs
    · cases uf with
      | false => rw [hfp] at hb; simp at hb
      | true =>
        rw [hfp] at hb
        simp only [if_true, Option.some.injEq] at hb
        subst hb
        simp only [if_true] at hhi
        refine ⟨hlom, by omega, hr9, hAw, fun f g hf hg => ?_, fun hG => ?_⟩
        · obtain rfl | rfl : f = 0 ∨ f = 1 := by omega
          · exact (HSel.out rfl).1 g hg
          · exact (HSel.out rfl).2 g hg
        · have h0 := R0.out hG
          have h1 := R1.out hG
          exact ⟨by show mb ≠ sb0; omega, by show mb ≠ sb1; omega⟩
  have HIn : Hid (In0 lo hi W9 (two sb0 sb1) (two o0 o1) (two n0 n1) (two L0 L1) N1 (two S0 S1) ec tc nE nE nT E (fun g => (T g).toNat) T fp A) := hIn
  have HB9 : Hid (Below w.heap.size w W9) := HB8.out.trans (d89.mono (by omega))
  have g0 : W9.heap[w.heap.size]? = some (.cells A0 24 (0, 0)) := (d89.block _ (by omega)).trans HG0.out
  have g1 : W9.heap[w.heap.size + 1]? = some (.cells A1 24 (0, 0)) := (d89.block _ (by omega)).trans HG1.out
  have gF : W9.heap[w.heap.size + 2]? = some (.cells AF 34 (0, 0)) := (d89.block _ (by omega)).trans HGF.out
  have HG0 : Hid (W9.heap[w.heap.size]? = some (.cells A0 24 (0, 0))) := g0
  have HG1 : Hid (W9.heap[w.heap.size + 1]? = some (.cells A1 24 (0, 0))) := g1
  have HGF : Hid (W9.heap[w.heap.size + 2]? = some (.cells AF 34 (0, 0))) := gF
  have HM9 : Hid (W9.heap[mb]? = some (.cells AF 34 (0, 0))) := hm9
  have K0 : Hid (CB lo W9 s0a N1 (fun i => .int .u8 ((S0 i : Nat) : Int))) := K0.out.below (d89.mono hlom)
  have K1 : Hid (CB lo W9 s1a N1 (fun i => .int .u8 ((S1 i : Nat) : Int))) := K1.out.below (d89.mono hlom)
  have KE : Hid (CB lo W9 ec nE (fun i => .int .u16 ((E i : Nat) : Int))) := KE.out.below (d89.mono hlom)
  have KT : Hid (CB lo W9 tc nT (fun i => .int .i32 (T i))) := KT.out.below (d89.mono hlom)
  have R0 : Hid (0 < N1 → o0 = some ⟨sb0, 0, none⟩ ∧ lo ≤ sb0 ∧ sb0 < mb) := fun h => by have := R0.out h; exact ⟨this.1, this.2.1, by omega⟩
  have R1 : Hid (0 < N1 → o1 = some ⟨sb1, 0, none⟩ ∧ lo ≤ sb1 ∧ sb1 < mb) := fun h => by have := R1.out h; exact ⟨this.1, this.2.1, by omega⟩
  have HFP : Hid (fp = if uf then some mb else none) := hfp
  have HHI : Hid (hi = if uf then mb + 1 else mb) := hhi
  have HS9 : Hid (W9.heap.size = mb + 1) := hs9
  clear hW9 hmb hst hzs hIn hr9 hm9 d89 gF HB8 hs9 hlo8
  go_upto_if 112 with fail
  go_cut [24] (fun v w' => v = .pointer (fp.map fun b => ⟨b, 0, none⟩) ∧ w' = W9)
  case first =>
    cases uf with
    | false =>
      go_wp2_with fail
      go_meet
      case rel => exact ⟨by rw [HFP.out]; rfl, rfl⟩
    | true =>
      go_wp2_with fail
      go_meet
      case rel => exact ⟨by rw [HFP.out]; rfl, rfl⟩
  case rest =>
  obtain ⟨rfl, hw⟩ := hcut
  rw [hw]; clear hw hfp hhi
  go_wp2_with (first | (refine wpList_load_row rfl 24 (.tmp 11) rfl w.heap.size rfl 24 A0 (0, 0) _ g0 Try.underlying24 rfl i0 ?_) | (refine wpList_load_row rfl 24 (.tmp 14) rfl (w.heap.size + 1) rfl 24 A1 (0, 0) _ g1 Try.underlying24 rfl i1 ?_) | fail)
  refine (zzChoose_walk lo hi W9 A0 A1 (two sb0 sb1) (two o0 o1) (fun _ => N1) (two n0 n1) (two L0 L1) N1 (two S0 S1) ec tc nE nE nT nT E (fun g => (T g).toNat) T fp A HA0.out HA1.out HIn.out).mono ?_
  rintro e w10 ⟨rfl, hM, hsel, hfit⟩
  obtain ⟨st, hst⟩ : ∃ st : Nat → Nat, st = fun g => (T g).toNat := ⟨_, rfl⟩
  rw [← hst] at hsel hfit ⊢
  have hGrp : Grp E st T N1 nE nT := by rw [hst]; exact HFit.out.grp
  obtain ⟨n2, hn2⟩ : ∃ n2, n2 = two n0 n1 := ⟨_, rfl⟩
  obtain ⟨L2, hL2⟩ : ∃ L2, L2 = two L0 L1 := ⟨_, rfl⟩
  rw [← hn2, ← hL2] at hsel hfit ⊢
  obtain ⟨X0, hX0⟩ : ∃ x, x = bsm E st n2 L2 0 N1 := ⟨_, rfl⟩
  obtain ⟨X1, hX1⟩ : ∃ x, x = bsm E st n2 L2 1 N1 := ⟨_, rfl⟩
  rw [← hX0, ← hX1]
  have HX0 : Hid (X0 = bsm E st n2 L2 0 N1) := hX0
  have HX1 : Hid (X1 = bsm E st n2 L2 1 N1) := hX1
  have hbest : ∀ f k, f < 2 → k < N1 → least E (lenF n2 L2) (st k) (st (k + 1) - st k) f = best E (two n0 n1 f) (two L0 L1 f) (st k) (st (k + 1) - st k) := fun f k hf hk => by
    rw [hn2, hL2]
    exact lenF_best E (two n0 n1) (two L0 L1) (st k) (st (k + 1) - st k) f (HIn.out.hn1 f hf) (HIn.out.hn6 f hf) (fun t s ht hs => HIn.out.hL f t s hf ht hs) (hGrp.sym k hk)
  have hbs : ∀ f k, f < 2 → k ≤ N1 → bsm E st n2 L2 f k ≤ 8192 * k := fun f k hf hk => bsm_le E st n2 L2 f k (fun g hg => by
    have h1 := mn_le (key (fun t => cst E (lenF n2 L2 (6 * f + t)) (st g) (st (g + 1) - st g))) 5 0 (by omega)
    rw [show key (fun t => cst E (lenF n2 L2 (6 * f + t)) (st g) (st (g + 1) - st g)) 0 = 8 * cst E (lenF n2 L2 (6 * f + 0)) (st g) (st (g + 1) - st g) + 0 from rfl] at h1
    have h2 := laneF_fits E n2 L2 (st g) (st (g + 1) - st g) (by rw [hn2, hL2]; exact HIn.out.hL) (hGrp.sym g (by omega)) (hGrp.hto g (by omega)) (6 * f + 0) (by omega)
    unfold least
    omega)
  have HBest : Hid (∀ f k, f < 2 → k < N1 → least E (lenF n2 L2) (st k) (st (k + 1) - st k) f = best E (two n0 n1 f) (two L0 L1 f) (st k) (st (k + 1) - st k)) := hbest
  have HBs : Hid (∀ f k, f < 2 → k ≤ N1 → bsm E st n2 L2 f k ≤ 8192 * k) := hbs
  have HGrp : Hid (Grp E st T N1 nE nT) := hGrp
  have HM : Hid (Mid lo hi W9 w10) := hM
  have HO : Hid (∀ f, f < 2 → 0 < N1 → w10.rowIs (two sb0 sb1 f) 5 N1 (fun i => .int .u8 (nw E st n2 L2 f i : Nat))) := hsel
  have hMv : ∃ M, w10.heap[mb]? = some (.cells M 34 (0, 0)) ∧ FitArr M (fun p => if uf then wrap64 (A p + dl E st n2 L2 (two S0 S1) p N1) else A p) := by
    have hfp := HFP.out
    have hhi := HHI.out
    cases uf with
    | false =>
      simp only [Bool.false_eq_true, if_false] at hhi ⊢
      exact ⟨AF, (hM.above mb (by omega) (by have := HS9.out; omega)).trans HM9.out, HAF.out⟩
    | true =>
      simp only [if_true] at hfp ⊢
      exact FitArr.row (hfit mb hfp)
  obtain ⟨M, hM1, hM2⟩ := hMv
  have HMv : Hid (w10.heap[mb]? = some (.cells M 34 (0, 0))) := hM1
  have HMF : Hid (FitArr M (fun p => if uf then wrap64 (A p + dl E st n2 L2 (two S0 S1) p N1) else A p)) := hM2
  have HST : Hid (st = fun g => (T g).toNat) := hst
  clear hst hsel hfit hn2 hL2 hX0 hX1 hGrp hbest hbs hM hM1 hM2 g0 g1
  go_upto_region 23 with fail
  refine wp_world (fun Y hY => ?_)
  obtain ⟨bk, hbk⟩ : ∃ bk, bk = w10.heap.size := ⟨_, rfl⟩
  rw [← hbk]
  have hsY : Y.heap.size = bk + 2 := by rw [hY, hbk]; simp
  have dY : Below bk w10 Y := by rw [hY, hbk]; exact ((Below.refl _ _).alloc (Nat.le_refl _) _).alloc (by simp) _
  have hmbk : mb < bk := by
    have h1 := HM.out.below.size
    have h2 := HS9.out
    omega
  have dl9 : Below lo W9 Y := HM.out.below.trans (dY.mono (by omega))
  have yb : Y.heap[bk]? = some (.cells #[.int .i64 (X0 : Nat), .int .i64 (X1 : Nat)] 43 (0, 0)) := by
    rw [hY, hbk, Below.heap_alloc _ _ _ (by simp)]; exact heap_alloc_new w10 _
  have yw : Y.rowIs (bk + 1) 43 2 (fun f => .int .i64 (bsm E st n2 L2 f 0 : Nat)) := by
    rw [hY, hbk]
    have := World.rowIs_alloc (w10.alloc (.cells #[.int .i64 (X0 : Nat), .int .i64 (X1 : Nat)] 43)) #[.int .i64 0, .int .i64 0] 43 (fun _ => .int .i64 0) (fun i hi => by
      simp at hi
      match i, hi with
      | 0, _ => rfl
      | 1, _ => rfl)
    rw [show (w10.alloc (.cells #[.int .i64 (X0 : Nat), .int .i64 (X1 : Nat)] 43)).heap.size = w10.heap.size + 1 by simp] at this
    exact this
  have yE : CB (bk + 1) Y ec nE (fun i => .int .u16 ((E i : Nat) : Int)) := (KE.out.below dl9).up (by omega)
  have yT : CB (bk + 1) Y tc nT (fun i => .int .i32 (T i)) := (KT.out.below dl9).up (by omega)
  have ys0 : CB (bk + 1) Y s0a N1 (fun i => .int .u8 ((S0 i : Nat) : Int)) := (K0.out.below dl9).up (by omega)
  have ys1 : CB (bk + 1) Y s1a N1 (fun i => .int .u8 ((S1 i : Nat) : Int)) := (K1.out.below dl9).up (by omega)
  have yo0 : CB (bk + 1) Y o0 N1 (fun i => .int .u8 (nw E st n2 L2 0 i : Nat)) := by
    refine ⟨by omega, ?_⟩
    rcases Nat.eq_zero_or_pos N1 with h | h
    · exact .inl h
    · have hr := (HO.out 0 (by omega) h).of_block (dY.block _ (by have := R0.out h; show sb0 < bk; omega))
      exact .inr ⟨sb0, 0, (R0.out h).1, by have := R0.out h; omega, fun i hi => by rw [Nat.zero_add]; exact hr.cell hi⟩
  have yo1 : CB (bk + 1) Y o1 N1 (fun i => .int .u8 (nw E st n2 L2 1 i : Nat)) := by
    refine ⟨by omega, ?_⟩
    rcases Nat.eq_zero_or_pos N1 with h | h
    · exact .inl h
    · have hr := (HO.out 1 (by omega) h).of_block (dY.block _ (by have := R1.out h; show sb1 < bk; omega))
      exact .inr ⟨sb1, 0, (R1.out h).1, by have := R1.out h; omega, fun i hi => by rw [Nat.zero_add]; exact hr.cell hi⟩
  have y0 : Y.heap[w.heap.size]? = some (.cells A0 24 (0, 0)) := (dl9.block _ (by omega)).trans HG0.out
  have y1 : Y.heap[w.heap.size + 1]? = some (.cells A1 24 (0, 0)) := (dl9.block _ (by omega)).trans HG1.out
  have yF : Y.heap[w.heap.size + 2]? = some (.cells AF 34 (0, 0)) := (dl9.block _ (by omega)).trans HGF.out
  have yM : Y.heap[mb]? = some (.cells M 34 (0, 0)) := (dY.block _ hmbk).trans HMv.out
  have HYb : Hid (Y.heap[bk]? = some (.cells #[.int .i64 (X0 : Nat), .int .i64 (X1 : Nat)] 43 (0, 0))) := yb
  have HYw : Hid (Y.rowIs (bk + 1) 43 2 (fun f => .int .i64 (bsm E st n2 L2 f 0 : Nat))) := yw
  have HYE : Hid (CB (bk + 1) Y ec nE (fun i => .int .u16 ((E i : Nat) : Int))) := yE
  have HYT : Hid (CB (bk + 1) Y tc nT (fun i => .int .i32 (T i))) := yT
  have HYs0 : Hid (CB (bk + 1) Y s0a N1 (fun i => .int .u8 ((S0 i : Nat) : Int))) := ys0
  have HYs1 : Hid (CB (bk + 1) Y s1a N1 (fun i => .int .u8 ((S1 i : Nat) : Int))) := ys1
  have HYo0 : Hid (CB (bk + 1) Y o0 N1 (fun i => .int .u8 (nw E st n2 L2 0 i : Nat))) := yo0
  have HYo1 : Hid (CB (bk + 1) Y o1 N1 (fun i => .int .u8 (nw E st n2 L2 1 i : Nat))) := yo1
  have HY0 : Hid (Y.heap[w.heap.size]? = some (.cells A0 24 (0, 0))) := y0
  have HY1 : Hid (Y.heap[w.heap.size + 1]? = some (.cells A1 24 (0, 0))) := y1
  have HYF : Hid (Y.heap[w.heap.size + 2]? = some (.cells AF 34 (0, 0))) := yF
  have HYM : Hid (Y.heap[mb]? = some (.cells M 34 (0, 0))) := yM
  have HBY : Hid (Below w.heap.size w Y) := HB9.out.trans (dl9.mono (by omega))
  have HSY : Hid (Y.heap.size = bk + 2) := hsY
  clear hY hbk hsY dY dl9 yb yw yE yT ys0 ys1 yo0 yo1 y0 y1 yF yM HM HO HMv HB9 HG0 HG1 HGF HM9 K0 K1 KE KT R0 R1 HIn
  go_wp2_with fail
  go_loopg [27] N1 (fun g i wr => ∃ k : Nat, k + g = N1 ∧ i = .int .i64 k ∧ Mid (bk + 1) (bk + 2) Y wr ∧ wr.rowIs (bk + 1) 43 2 (fun f => .int .i64 (bsm E st n2 L2 f k : Nat)))
  case atStart => exact ⟨0, by omega, rfl, Mid.refl _ _ _, HYw.out⟩
  case round =>
    obtain ⟨k, hk, rfl, hM, hR⟩ := hrel
    have HK : Hid (k + gk = N1) := hk
    have HM : Hid (Mid (bk + 1) (bk + 2) Y wr) := hM
    have HR : Hid (wr.rowIs (bk + 1) 43 2 (fun f => .int .i64 (bsm E st n2 L2 f k : Nat))) := hR
    by_cases hkG : k < N1
    · have hkG' : (k : Int) < N1 := by omega
      have hkT : k + 1 < nT := by have := HGrp.out.hnT (by omega); omega
      have hkT' : k < nT := by omega
      have hTr := HYT.out.below hM.below
      have hEr := HYE.out.below hM.below
      obtain ⟨tb, tof, htc, htb, ht⟩ := hTr.at hkT'
      obtain ⟨tb', tof', htc', _, ht1⟩ := hTr.at hkT
      rw [htc] at htc'
      cases htc'
      have e1 := HGrp.out.hst k (by omega) (by omega)
      have e2 := HGrp.out.hst (k + 1) (by omega) (by omega)
      have e3 := HGrp.out.up k hkG
      have e4 := HGrp.out.le (k + 1) (by omega) (by omega)
      obtain ⟨m, hm⟩ : ∃ m, m = st (k + 1) - st k := ⟨_, rfl⟩
      rw [e1] at ht
      rw [e2, show st (k + 1) = st k + m by omega] at ht1
      have hsm : st k + m ≤ nE := by omega
      have hsym := HGrp.out.sym k hkG
      have htot := HGrp.out.hto k hkG
      rw [← hm] at hsym htot
      have hch0 := cheapest_walk wr w.heap.size L0 n0 ec nE nE E (st k) m (HA0.out.at ((hM.below.block _ (by omega)).trans HY0.out)) hEr.cs hE16 (by omega) (by omega) hsm hnE hsym HFit.out.l0 htot
      have hch1 := cheapest_walk wr (w.heap.size + 1) L1 n1 ec nE nE E (st k) m (HA1.out.at ((hM.below.block _ (by omega)).trans HY1.out)) hEr.cs hE16 (by omega) (by omega) hsm hnE hsym HFit.out.l1 htot
      have hb0 : least E (lenF n2 L2) (st k) m 0 = best E n0 L0 (st k) m := by rw [hm]; exact HBest.out 0 k (by omega) hkG
      have hb1 : least E (lenF n2 L2) (st k) m 1 = best E n1 L1 (st k) m := by rw [hm]; exact HBest.out 1 k (by omega) hkG
      obtain ⟨v0, hv0⟩ : ∃ v, v = best E n0 L0 (st k) m := ⟨_, rfl⟩
      obtain ⟨v1, hv1⟩ : ∃ v, v = best E n1 L1 (st k) m := ⟨_, rfl⟩
      unfold Cheap at hch0 hch1
      rw [← hv0] at hch0 hb0
      rw [← hv1] at hch1 hb1
      have hnw0 : nw E st n2 L2 0 k = v0 % 8 := by rw [nw, ← hm, hb0]
      have hnw1 : nw E st n2 L2 1 k = v1 % 8 := by rw [nw, ← hm, hb1]
      have hbm0 : bsm E st n2 L2 0 (k + 1) = bsm E st n2 L2 0 k + v0 / 8 := by rw [bsm, ← hm, hb0]
      have hbm1 : bsm E st n2 L2 1 (k + 1) = bsm E st n2 L2 1 k + v1 / 8 := by rw [bsm, ← hm, hb1]
      obtain ⟨ob0, oo0, ho0, _, hc0⟩ := (HYo0.out.below hM.below).at hkG
      obtain ⟨ob1, oo1, ho1, _, hc1⟩ := (HYo1.out.below hM.below).at hkG
      rw [hnw0] at hc0
      rw [hnw1] at hc1
      have hw0 := hR.cell (i := 0) (by omega)
      have hw1 := hR.cell (i := 1) (by omega)
      have hwf := hR.frozen
      have hbd0 := HBs.out 0 k (by omega) (by omega)
      have hbd1 := HBs.out 1 k (by omega) (by omega)
      have hbe0 := HBs.out 0 (k + 1) (by omega) (by omega)
      have hbe1 := HBs.out 1 (k + 1) (by omega) (by omega)
      rw [hbm0] at hbe0
      rw [hbm1] at hbe1
      obtain ⟨y0, hy0⟩ : ∃ y, y = bsm E st n2 L2 0 k := ⟨_, rfl⟩
      obtain ⟨y1, hy1⟩ : ∃ y, y = bsm E st n2 L2 1 k := ⟨_, rfl⟩
      rw [← hy0] at hw0 hbd0 hbe0 hbm0
      rw [← hy1] at hw1 hbd1 hbe1 hbm1
      have HBM0 : Hid (bsm E st n2 L2 0 (k + 1) = y0 + v0 / 8) := hbm0
      have HBM1 : Hid (bsm E st n2 L2 1 (k + 1) = y1 + v1 / 8) := hbm1
      clear hk hM hR hTr hEr e1 e2 e3 e4 hm hsym htot hb0 hb1 hv0 hv1 hnw0 hnw1 hbm0 hbm1 hy0 hy1
      rw [Int.natCast_add] at hch0 hch1
      subst htc ho0 ho1
      go_wp2_with fail
      refine hch0.mono ?_
      rintro e w11 ⟨hw, rfl⟩
      rw [hw]; clear hw hch0
      go_wp2_with fail
      refine hch1.mono ?_
      rintro e w12 ⟨hw, rfl⟩
      rw [hw]; clear hw hch1
      go_wp2_with fail
      have hk := HK.out
      go_roundg (gk - 1)
      case rel =>
        refine ⟨k + 1, by omega, by go_num, (HM.out.set (Nat.le_refl _) (.inl (by show bk + 1 < bk + 2; omega)) _).set (Nat.le_refl _) (.inl (by show bk + 1 < bk + 2; omega)) _, (set2 HR.out 0 1 _ _).congr (fun f hf => ?_)⟩
        obtain rfl | rfl : f = 0 ∨ f = 1 := by omega
        · rw [if_neg (by omega), if_pos rfl, HBM0.out]; congr 1
        · rw [if_pos rfl, HBM1.out]; congr 1
      case measure => omega
    · have hkN : k = N1 := by omega
      have hkG' : ¬ (k : Int) < N1 := by omega
      have hbb : wr.heap[bk]? = some (.cells #[.int .i64 (X0 : Nat), .int .i64 (X1 : Nat)] 43 (0, 0)) := (hM.below.block _ (by omega)).trans HYb.out
      have hb0 : wr.cell? ⟨bk, 0, none⟩ = some (.int .i64 (X0 : Nat)) := cell_of_row _ _ 0 _ 43 (0, 0) hbb
      have hb1 : wr.cell? ⟨bk, 1, none⟩ = some (.int .i64 (X1 : Nat)) := cell_of_row _ _ 1 _ 43 (0, 0) hbb
      have hw0 := hR.cell (i := 0) (by omega)
      have hw1 := hR.cell (i := 1) (by omega)
      rw [hkN, ← HX0.out] at hw0
      rw [hkN, ← HX1.out] at hw1
      have hEq : ∀ w, (Op.equalIn 10000 43 (.agg #[.int .i64 (X0 : Nat), .int .i64 (X1 : Nat)]) (.agg #[.int .i64 (X0 : Nat), .int .i64 (X1 : Nat)])).run Try.prog w = .ok true w := fun w => eq43 w 9998 X0 X1
      have hg43 := Try.guard43
      have dYr : Below (bk + 1) Y wr := hM.below
      have yF : wr.heap[w.heap.size + 2]? = some (.cells AF 34 (0, 0)) := (dYr.block _ (by omega)).trans HYF.out
      have yM : wr.heap[mb]? = some (.cells M 34 (0, 0)) := (dYr.block _ (by omega)).trans HYM.out
      have HBr : Hid (Below w.heap.size w wr) := HBY.out.trans (dYr.mono (by omega))
      have HDYr : Hid (Below (bk + 1) Y wr) := dYr
      have HszR : Hid (bk + 2 ≤ wr.heap.size) := by show _ ≤ _; have := dYr.size; have := HSY.out; omega
      have iM : (Try.prog.info? 34).map (·.size) = some M.size := by rw [HMF.out.1]; kernel_rfl
      clear hk hM hR hbb dYr
      cases uf with
      | false =>
        have hMA : M = AF := HMF.out.same HAF.out
        subst hMA
        have hEq2 : ∀ w, (Op.equalIn 10000 34 (.agg M) (.agg M)).run Try.prog w = .ok true w := fun w => eq34 w 9996 M HAF.out.ints
        have hg34 := Try.guard34
        go_wp2_with (first | (refine wpList_load_row rfl 34 (.tmp 23) rfl mb rfl 34 M (0, 0) _ yM Try.underlying34 rfl iM ?_) | (refine wpList_load_row rfl 34 (.tmp 19) rfl (w.heap.size + 2) rfl 34 M (0, 0) _ yF Try.underlying34 rfl iM ?_) | fail)
        go_ret
        exact ⟨rfl, HBr.out⟩
      | true =>
        have hzs : Z34.size = AF.size := by rw [HZ34.out, HAF.out.1]
        have hstr : (wr.alloc (.cells Z34 34)).heap[wr.heap.size]? = some (.cells Z34 34 (0, 0)) := heap_alloc_new wr _
        go_upto_region 37 with fail
        go_upto_region 38 with (first | (refine wpList_load_row rfl 34 (.tmp 19) rfl (w.heap.size + 2) rfl 34 AF (0, 0) _ yF Try.underlying34 rfl iF ?_) | (refine wpList_store_row rfl 34 (.tmp 34) (.tmp 186) rfl wr.heap.size AF rfl rfl 34 Z34 hstr iF hzs hone ?_))
        rw [World.setRow_alloc_new]
        obtain ⟨xb, hxb⟩ : ∃ xb, xb = wr.heap.size := ⟨_, rfl⟩
        obtain ⟨V, hV⟩ : ∃ V, V = wr.alloc (.cells AF 34) := ⟨_, rfl⟩
        rw [← hxb, ← hV]
        have dV : Below xb wr V := by rw [hV, hxb]; exact (Below.refl _ _).alloc (Nat.le_refl _) _
        have hVx : V.heap[xb]? = some (.cells AF 34 (0, 0)) := by rw [hV, hxb]; exact heap_alloc_new wr _
        have hVr : V.rowIs xb 34 3096 (fun p => .int .i64 (A p)) := ⟨AF, hVx, HAF.out.1, HAF.out.2⟩
        have hxl : bk + 2 ≤ xb := by rw [hxb]; exact HszR.out
        have dYV : Below (bk + 1) Y V := HDYr.out.trans (dV.mono (by omega))
        have vE : CB xb V ec nE (fun i => .int .u16 ((E i : Nat) : Int)) := (HYE.out.below dYV).up (by omega)
        have vT : CB xb V tc nT (fun i => .int .i32 (T i)) := (HYT.out.below dYV).up (by omega)
        have vs0 : CB xb V s0a N1 (fun i => .int .u8 ((S0 i : Nat) : Int)) := (HYs0.out.below dYV).up (by omega)
        have vs1 : CB xb V s1a N1 (fun i => .int .u8 ((S1 i : Nat) : Int)) := (HYs1.out.below dYV).up (by omega)
        have vo0 : CB xb V o0 N1 (fun i => .int .u8 (nw E st n2 L2 0 i : Nat)) := (HYo0.out.below dYV).up (by omega)
        have vo1 : CB xb V o1 N1 (fun i => .int .u8 (nw E st n2 L2 1 i : Nat)) := (HYo1.out.below dYV).up (by omega)
        have vM : V.heap[mb]? = some (.cells M 34 (0, 0)) := (dV.block _ (by omega)).trans yM
        have HBV : Hid (Below w.heap.size w V) := HBr.out.trans (dV.mono (by omega))
        have hsel := HSel.out rfl
        have ht1 := tally_walk V xb ec tc s0a s1a nE nE nT nT N1 N1 N1 E st S0 S1 T (-1) A vE vT vs0 vs1 HGrp.out hsel.1 hsel.2 (.inr rfl) hVr hAw
        clear hV hxb yF yM dV hVx hVr dYV hstr hzs vs0 vs1 hb0 hb1 hw0 hw1 hEq hg43
        go_wp2_with fail
        refine ht1.mono ?_
        rintro e V1 ⟨⟨v, rfl⟩, hm1, hr1⟩
        have ht2 := tally_walk V1 xb ec tc o0 o1 nE nE nT nT N1 N1 N1 E st (nw E st n2 L2 0) (nw E st n2 L2 1) T 1 (fun p => wrap64 (A p + -1 * tl E st S0 S1 p N1)) (vE.below hm1.below) (vT.below hm1.below) (vo0.below hm1.below) (vo1.below hm1.below) HGrp.out (fun g _ => nw_lt E st n2 L2 0 g) (fun g _ => nw_lt E st n2 L2 1 g) (.inl rfl) hr1 (fun p _ => by
          have := wrap64_add (A p + -1 * tl E st S0 S1 p N1) 0
          rw [Int.add_zero, Int.add_zero] at this
          exact this)
        have vM1 : V1.heap[mb]? = some (.cells M 34 (0, 0)) := (hm1.below.block _ (by omega)).trans vM
        have HBV1 : Hid (Below w.heap.size w V1) := HBV.out.trans (hm1.below.mono (by omega))
        clear ht1 hm1 hr1 vE vT vo0 vo1 vM
        go_wp2_with fail
        refine ht2.mono ?_
        rintro e V2 ⟨⟨v', rfl⟩, hm2, hr2⟩
        have vM2 : V2.heap[mb]? = some (.cells M 34 (0, 0)) := (hm2.below.block _ (by omega)).trans vM1
        have HBV2 : Hid (Below w.heap.size w V2) := HBV1.out.trans (hm2.below.mono (by omega))
        have hrx : V2.rowIs xb 34 3096 (fun p => .int .i64 (wrap64 (A p + dl E st n2 L2 (two S0 S1) p N1))) := hr2.congr (fun p hp => by
          unfold fc
          dsimp only
          rw [wrap64_add, dl]
          congr 2
          show A p + -1 * tl E st S0 S1 p N1 + 1 * tl E st (nw E st n2 L2 0) (nw E st n2 L2 1) p N1 = A p + (tl E st (nw E st n2 L2 0) (nw E st n2 L2 1) p N1 - tl E st S0 S1 p N1)
          omega)
        obtain ⟨X, hX1, hX2⟩ := FitArr.row hrx
        have hMX : M = X := HMF.out.same hX2
        subst hMX
        have hEq2 : ∀ w, (Op.equalIn 10000 34 (.agg M) (.agg M)).run Try.prog w = .ok true w := fun w => eq34 w 9996 M hX2.ints
        have hg34 := Try.guard34
        clear ht2 hm2 hr2 hrx hX2 vM1
        go_wp2_with (first | (refine wpList_load_row rfl 34 (.tmp 23) rfl mb rfl 34 M (0, 0) _ vM2 Try.underlying34 rfl iM ?_) | (refine wpList_load_row rfl 34 (.tmp 34) rfl xb rfl 34 M (0, 0) _ hX1 Try.underlying34 rfl iM ?_) | fail)
        go_ret
        exact ⟨rfl, HBV2.out⟩
end Go.Proofs.Qxb6601576a
