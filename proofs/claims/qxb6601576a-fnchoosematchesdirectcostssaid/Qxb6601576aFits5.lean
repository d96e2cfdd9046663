import Derived.Test.Qxb6601576aTally5
namespace Go.Proofs.Qxb6601576a
open Go.RowKit

/-- What the input must fit. -/
structure Fit (E : Nat → Nat) (T : Nat → Int) (n0 n1 : Nat) (L0 L1 : Nat → Nat → Nat) (G nE nT : Nat) : Prop where
  grp : Grp E (fun g => (T g).toNat) T G nE nT
  l0 : ∀ t s, t < n0 → s < 258 → L0 t s ≤ 100
  l1 : ∀ t s, t < n1 → s < 258 → L1 t s ≤ 100

theorem tot_bound (E : Nat → Nat) (a : Nat) : ∀ m, tot E a m ≤ 63 * m
  | 0 => by simp [tot]
  | m + 1 => by have := tot_bound E a m; rw [tot]; omega

def FitsSay (w : World) (F : Prop) (e : Ending) (w' : World) : Prop := Drawn w w' ∧ ∃ b, e = .returned (.bool b) ∧ (b = true → F)

set_option maxHeartbeats 1000000 in
set_option maxRecDepth 100000 in
theorem fits_out (w : World) (p0 p1 v6 v7 : Value) (n0 n1 : Int) (G G1 : Nat) (F : Prop) (h : ¬ (1 ≤ n0 ∧ n0 ≤ 6 ∧ 1 ≤ n1 ∧ n1 ≤ 6 ∧ G1 = G)) :
    Calls Try.prog 14 #[.int .i64 n0, p0, .int .i64 n1, p1, .int .i64 (G : Nat), .int .i64 (G1 : Nat), v6, v7] w (FitsSay w F) := by
  by_cases h1 : n0 < 1
  · go_enter Try.func14, Try.ntmps14
    go_wp2_with fail
    go_ret
    exact ⟨Drawn.refl _, _, rfl, fun h => by cases h⟩
  have h1' : decide (n0 < 1) = false := decide_eq_false h1
  by_cases h2 : 6 < n0
  · go_enter Try.func14, Try.ntmps14
    go_wp2_with fail
    go_ret
    exact ⟨Drawn.refl _, _, rfl, fun h => by cases h⟩
  have h2' : decide (6 < n0) = false := decide_eq_false h2
  by_cases h3 : n1 < 1
  · go_enter Try.func14, Try.ntmps14
    go_wp2_with fail
    go_ret
    exact ⟨Drawn.refl _, _, rfl, fun h => by cases h⟩
  have h3' : decide (n1 < 1) = false := decide_eq_false h3
  by_cases h4 : 6 < n1
  · go_enter Try.func14, Try.ntmps14
    go_wp2_with fail
    go_ret
    exact ⟨Drawn.refl _, _, rfl, fun h => by cases h⟩
  have h4' : decide (6 < n1) = false := decide_eq_false h4
  have h5 : ((G1 : Nat) : Int) ≠ (G : Nat) := by omega
  have h5' : (((G1 : Nat) : Int) != (G : Nat)) = true := by simpa using h5
  clear h h5
  go_enter Try.func14, Try.ntmps14
  go_wp2_with fail
  go_ret
  exact ⟨Drawn.refl _, _, rfl, fun h => by cases h⟩

set_option maxHeartbeats 1000000 in
set_option maxRecDepth 100000 in
theorem fits_in (w : World) (b0 b1 : Nat) (L0 L1 : Nat → Nat → Nat) (n0 n1 : Nat) (G nE cE nT cT : Nat) (ea ta : Option Addr) (E : Nat → Nat) (T : Nat → Int)
    (hL0 : LensAt w b0 0 L0) (hL1 : LensAt w b1 0 L1) (hE : ES 0 w ea nE E) (hT : TS 0 w ta nT T) (he16 : ∀ i, i < nE → E i < 65536) (hT32 : ∀ i, i < nT → -2147483648 ≤ T i ∧ T i ≤ 2147483647) (hnE : nE ≤ 16384) (hnT : nT ≤ 8192) (hGG : G ≤ 4096)
    (h1 : 1 ≤ n0) (h2 : n0 ≤ 6) (h3 : 1 ≤ n1) (h4 : n1 ≤ 6) :
    Calls Try.prog 14 #[.int .i64 (n0 : Nat), .pointer (some ⟨b0, 0, none⟩), .int .i64 (n1 : Nat), .pointer (some ⟨b1, 0, none⟩), .int .i64 (G : Nat), .int .i64 (G : Nat), .slice ea nE cE, .slice ta nT cT] w
      (FitsSay w (Fit E T n0 n1 L0 L1 G nE nT)) := by
  have h1' : decide ((n0 : Int) < 1) = false := decide_eq_false (by omega)
  have h2' : decide ((6 : Int) < n0) = false := decide_eq_false (by omega)
  have h3' : decide ((n1 : Int) < 1) = false := decide_eq_false (by omega)
  have h4' : ¬ (6 : Int) < n1 := by omega
  have HL0 : Hid (LensAt w b0 0 L0) := hL0
  have HL1 : Hid (LensAt w b1 0 L1) := hL1
  clear hL0 hL1
  go_enter Try.func14, Try.ntmps14
  go_upto_if 43 with fail
  go_cut [17, 18] (fun _ _ w' => Drawn w w' ∧ Grp E (fun g => (T g).toNat) T G nE nT)
  case first =>
    by_cases hG0 : G = 0
    · subst hG0
      go_wp2_with fail
      go_meet
      case rel => exact ⟨Drawn.refl _, ⟨fun h => by omega, fun _ _ h => by omega, fun _ _ h => by omega, fun g h => by omega, fun g h => by omega, fun g h => by omega, he16, hnE, by omega⟩⟩
    · have hG0' : (0 : Int) < G := by omega
      by_cases hTn : nT < G + 1
      · have hTn' : (nT : Int) < G + 1 := by omega
        go_wp2_with fail
        go_ret
        exact ⟨Drawn.refl _, _, rfl, fun h => by cases h⟩
      have hTn' : ¬ (nT : Int) < G + 1 := by omega
      go_wp2_with fail
      go_loopg [17] (G + 1) (fun g i wr => ∃ k : Nat, k + g = G + 1 ∧ i = .int .i64 k ∧ Drawn w wr ∧ (∀ h, h < k → 0 ≤ T h ∧ T h ≤ nE ∧ (0 < h → T (h - 1) ≤ T h)))
      case atStart => exact ⟨0, by omega, rfl, Drawn.refl _, fun h hh => by omega⟩
      case round =>
        obtain ⟨k, hk, rfl, hD, hall⟩ := hrel
        have HK : Hid (k + gk = G + 1) := hk
        have HD : Hid (Drawn w wr) := hD
        have HA : Hid (∀ h, h < k → 0 ≤ T h ∧ T h ≤ nE ∧ (0 < h → T (h - 1) ≤ T h)) := hall
        by_cases hkG : k ≤ G
        · have hkG' : (k : Int) ≤ G := by omega
          obtain ⟨tb, tof, rfl, _, ht⟩ := (hT.keeps hD.keeps).at (show k < nT by omega)
          have hknT : k < nT := by omega
          have hT32k := hT32 k hknT
          clear hk
          by_cases hneg : T k < 0
          · clear hall hD
            go_wp2_with fail
            go_ret
            exact ⟨HD.out, _, rfl, fun h => by cases h⟩
          have hneg' : decide (T k < 0) = false := decide_eq_false hneg
          by_cases hbig : (nE : Int) < T k
          · clear hall hD
            go_wp2_with fail
            go_ret
            exact ⟨HD.out, _, rfl, fun h => by cases h⟩
          have hbig' : ¬ (nE : Int) < T k := hbig
          by_cases hk0 : k = 0
          · have HK0 : Hid (k = 0) := hk0
            have hk0' : decide ((0 : Int) < (k : Nat)) = false := decide_eq_false (by omega)
            have hk0n : decide (0 < k) = false := decide_eq_false (by omega)
            clear hall hD hk0
            go_wp2_with fail
            go_quiet (fail)
            go_wp2_with fail
            have hk := HK.out
            go_roundg (gk - 1)
            case rel =>
              refine ⟨k + 1, by omega, by go_num, HD.out.more _, fun h hh => ?_⟩
              have := HK0.out
              have hh0 : h = k := by omega
              rw [hh0]
              exact ⟨by omega, by omega, fun h0 => by omega⟩
            case measure => omega
          · obtain ⟨h, rfl⟩ : ∃ h, k = h + 1 := ⟨k - 1, by omega⟩
            obtain ⟨_, _, he, _, ht'⟩ := (hT.keeps hD.keeps).at (show h < nT by omega)
            cases he
            have hT32h := hT32 h (by omega)
            have hk0' : (0 : Int) < ((h + 1 : Nat) : Int) := by omega
            clear hall hD hk0
            by_cases hlt : T (h + 1) < T h
            · go_wp2_with fail
              go_quiet (fail)
              go_wp2_with fail
              go_ret
              exact ⟨HD.out.more _, _, rfl, fun h => by cases h⟩
            · have hlt' : ¬ T (h + 1) < T h := hlt
              have hlt2 : decide (T (h + 1) < T h) = false := decide_eq_false hlt
              go_wp2_with fail
              go_quiet (fail)
              go_wp2_with fail
              have hk := HK.out
              go_roundg (gk - 1)
              case rel =>
                refine ⟨h + 1 + 1, by omega, by go_num, HD.out.more _, fun i hi => ?_⟩
                rcases Nat.lt_succ_iff_lt_or_eq.1 hi with h' | rfl
                · exact HA.out i h'
                · exact ⟨by omega, by omega, fun _ => by rw [show h + 1 - 1 = h by omega]; omega⟩
              case measure => omega
        · have hkG2 : k = G + 1 := by omega
          have hkG' : ¬ (k : Int) ≤ G := by omega
          have hst : ∀ g, g ≤ G → T g = ((T g).toNat : Nat) ∧ (T g).toNat ≤ nE := fun g hg => by have := hall g (by omega); omega
          have hup : ∀ g, g < G → (T g).toNat ≤ (T (g + 1)).toNat := fun g hg => by
            have h1 := (hall (g + 1) (by omega)).2.2 (by omega)
            rw [show g + 1 - 1 = g by omega] at h1
            omega
          have HST : Hid (∀ g, g ≤ G → T g = ((T g).toNat : Nat) ∧ (T g).toNat ≤ nE) := hst
          have HUP : Hid (∀ g, g < G → (T g).toNat ≤ (T (g + 1)).toNat) := hup
          obtain ⟨st, hstd⟩ : ∃ st : Nat → Nat, st = fun g => (T g).toNat := ⟨_, rfl⟩
          have hste : ∀ g, g ≤ G → T g = (st g : Nat) ∧ st g ≤ nE := fun g hg => by rw [hstd]; exact hst g hg
          have hupe : ∀ g, g < G → st g ≤ st (g + 1) := fun g hg => by rw [hstd]; exact hup g hg
          have HSTD : Hid (st = fun g => (T g).toNat) := hstd
          rename World => wo
          have hTo := hT.keeps hD.keeps
          have hEo := hE.keeps hD.keeps
          clear hstd hst hup hall hk hD hkG2 HK HA
          go_wp2_with fail
          go_loopg [18] G (fun g i wr => ∃ k : Nat, k + g = G ∧ i = .int .i64 k ∧ wr = wo ∧ (∀ h, h < k → (∀ j, j < st (h + 1) - st h → E (st h + j) / 64 < 258) ∧ tot E (st h) (st (h + 1) - st h) ≤ 81))
          case atStart => exact ⟨0, by omega, rfl, rfl, fun h hh => by omega⟩
          case round =>
            obtain ⟨k, hk, rfl, hwr, hall⟩ := hrel
            rw [hwr]; clear hwr
            have HK : Hid (k + gk = G) := hk
            have HA : Hid (∀ h, h < k → (∀ j, j < st (h + 1) - st h → E (st h + j) / 64 < 258) ∧ tot E (st h) (st (h + 1) - st h) ≤ 81) := hall
            by_cases hkG : k < G
            · have hkG' : (k : Int) < G := by omega
              have hknT : k < nT := by omega
              have hknT1 : k + 1 < nT := by omega
              obtain ⟨tb, tof, rfl, _, ht⟩ := hTo.at hknT
              obtain ⟨_, _, he, _, ht1⟩ := hTo.at hknT1
              cases he
              have e1 := hste k (by omega)
              have e2 := hste (k + 1) (by omega)
              have e3 := hupe k hkG
              rw [e1.1] at ht
              obtain ⟨m, hm⟩ : ∃ m, m = st (k + 1) - st k := ⟨_, rfl⟩
              rw [e2.1, show st (k + 1) = st k + m by omega] at ht1
              have hs1 : st k + m ≤ nE := by omega
              have HM : Hid (m = st (k + 1) - st k) := hm
              obtain ⟨g0, hg0⟩ : ∃ g0, g0 = gk := ⟨_, rfl⟩
              have HG0 : Hid (g0 = gk) := hg0
              clear hm e1 e2 e3 hg0 hk hall
              go_wp2_with fail
              go_loopg [19, 20] m (fun g tt i wr => ∃ j : Nat, j + g = m ∧ i = .int .i64 ((st k + j : Nat) : Int) ∧ tt = .int .i64 (tot E (st k) j : Nat) ∧ wr = wo ∧ (∀ i, i < j → E (st k + i) / 64 < 258))
              case atStart => exact ⟨0, by omega, rfl, rfl, rfl, fun i hi => by omega⟩
              case round =>
                obtain ⟨j, hj, rfl, rfl, hwr, hall⟩ := hrel
                rw [hwr]; clear hwr
                have HJ : Hid (j + gk = m) := hj
                have HAJ : Hid (∀ i, i < j → E (st k + i) / 64 < 258) := hall
                have htb := tot_bound E (st k) j
                by_cases hjm : j < m
                · have hjm' : ((st k + j : Nat) : Int) < ((st k + m : Nat) : Int) := by omega
                  obtain ⟨eb, eo, rfl, _, hc⟩ := hEo.at (show st k + j < nE by omega)
                  have hx16 := he16 (st k + j) (by omega)
                  have hand := u16_and63 (E (st k + j)) hx16
                  clear hj hall
                  by_cases h258 : E (st k + j) / 64 < 258
                  · have h258' : ¬ (258 : Int) ≤ ((E (st k + j) / 64 : Nat) : Int) := by omega
                    go_wp2_with fail
                    have hj := HJ.out
                    go_roundg (gk - 1)
                    case rel =>
                      refine ⟨j + 1, by omega, by go_num, by rw [tot]; congr 1, rfl, fun i hi => ?_⟩
                      rcases Nat.lt_succ_iff_lt_or_eq.1 hi with h' | rfl
                      · exact HAJ.out i h'
                      · exact h258
                    case measure => omega
                  · have h258' : (258 : Int) ≤ ((E (st k + j) / 64 : Nat) : Int) := by omega
                    go_wp2_with fail
                    go_ret
                    exact ⟨HD.out, _, rfl, fun h => by cases h⟩
                · have hjm2 : j = m := by omega
                  subst hjm2
                  have hjm' : ¬ (((st k + j : Nat) : Int) < ((st k + j : Nat) : Int)) := by omega
                  clear hj hall
                  by_cases h81 : tot E (st k) j ≤ 81
                  · have h81' : ¬ (81 : Int) < (tot E (st k) j : Nat) := by omega
                    go_wp2_with fail
                    have hk := HK.out
                    go_roundg (G - (k + 1))
                    case rel =>
                      refine ⟨k + 1, by omega, by go_num, rfl, fun h hh => ?_⟩
                      rcases Nat.lt_succ_iff_lt_or_eq.1 hh with h' | rfl
                      · exact HA.out h h'
                      · rw [← HM.out]; exact ⟨HAJ.out, h81⟩
                    case measure => have := HG0.out; omega
                  · have h81' : (81 : Int) < (tot E (st k) j : Nat) := by omega
                    go_wp2_with fail
                    go_ret
                    exact ⟨HD.out, _, rfl, fun h => by cases h⟩
            · have hkG2 : k = G := by omega
              have hkG' : ¬ (k : Int) < G := by omega
              clear hk hall
              go_wp2_with fail
              go_meet
              case rel =>
                refine ⟨HD.out, ?_⟩
                rw [← HSTD.out]
                rw [hkG2] at HA
                exact ⟨fun _ => by omega, fun g hg _ => (hste g hg).1, fun g hg _ => (hste g hg).2, hupe, fun g hg => (HA.out g hg).1, fun g hg => (HA.out g hg).2, he16, hnE, hGG⟩
  case rest =>
    obtain ⟨hD, hGr⟩ := hcut
    have hGrp : Hid (Grp E (fun g => (T g).toNat) T G nE nT) := hGr
    rename World => wo
    have HD : Hid (Drawn w wo) := hD
    have HL0' : Hid (LensAt wo b0 0 L0) := HL0.out.keeps hD.keeps
    have HL1' : Hid (LensAt wo b1 0 L1) := HL1.out.keeps hD.keeps
    clear hD hGr hE hT HL0 HL1
    go_wp2_with fail

    go_loopg [21] n0 (fun g i wr => ∃ k : Nat, k + g = n0 ∧ i = .int .i64 k ∧ wr = wo ∧ (∀ t s, t < k → s < 258 → L0 t s ≤ 100))
    case atStart => exact ⟨0, by omega, rfl, rfl, fun t s h => by omega⟩
    case round =>
      obtain ⟨k, hk, rfl, hwr, hall⟩ := hrel
      rw [hwr]; clear hwr
      have HK : Hid (k + gk = n0) := hk
      have HA0 : Hid (∀ t s, t < k → s < 258 → L0 t s ≤ 100) := hall
      by_cases hkn : k < n0
      · have hkn' : (k : Int) < n0 := by omega
        obtain ⟨g0, hg0⟩ : ∃ g0, g0 = gk := ⟨_, rfl⟩
        have HG0 : Hid (g0 = gk) := hg0
        clear hk hall hg0
        go_wp2_with fail
        go_loopg [22] 258 (fun g i wr => ∃ s : Nat, s + g = 258 ∧ i = .int .i64 s ∧ wr = wo ∧ (∀ s', s' < s → L0 k s' ≤ 100))
        case atStart => exact ⟨0, by omega, rfl, rfl, fun s h => by omega⟩
        case round =>
          obtain ⟨s, hs, rfl, hwr, hall⟩ := hrel
          rw [hwr]; clear hwr
          have HS : Hid (s + gk = 258) := hs
          have HAS : Hid (∀ s', s' < s → L0 k s' ≤ 100) := hall
          by_cases hs258 : s < 258
          · have hs258' : (s : Int) < 258 := by omega
            have hk6 : (k : Int) < 6 := by omega
            have hc := HL0'.out k s (by omega) hs258
            rw [Nat.zero_add] at hc
            clear hs hall
            by_cases h100 : L0 k s ≤ 100
            · have h100' : ¬ (100 : Int) < (L0 k s : Nat) := by omega
              go_wp2_with fail
              have hs := HS.out
              go_roundg (gk - 1)
              case rel =>
                refine ⟨s + 1, by omega, by go_num, rfl, fun s' hs' => ?_⟩
                rcases Nat.lt_succ_iff_lt_or_eq.1 hs' with h' | rfl
                · exact HAS.out s' h'
                · exact h100
              case measure => omega
            · have h100' : (100 : Int) < (L0 k s : Nat) := by omega
              go_wp2_with fail
              go_ret
              exact ⟨HD.out, _, rfl, fun h => by cases h⟩
          · have hs2 : s = 258 := by omega
            have hs258' : ¬ (s : Int) < 258 := by omega
            clear hs hall
            go_wp2_with fail
            have hk := HK.out
            go_roundg (n0 - (k + 1))
            case rel =>
              refine ⟨k + 1, by omega, by go_num, rfl, fun t s' ht hs' => ?_⟩
              rcases Nat.lt_succ_iff_lt_or_eq.1 ht with h' | rfl
              · exact HA0.out t s' h' hs'
              · exact HAS.out s' (by omega)
            case measure => have := HG0.out; omega
      · have hkn2 : k = n0 := by omega
        have hkn' : ¬ (k : Int) < n0 := by omega
        rw [hkn2] at HA0
        clear hk hall HK hkn2
        go_wp2_with fail

        go_loopg [23] n1 (fun g i wr => ∃ k : Nat, k + g = n1 ∧ i = .int .i64 k ∧ wr = wo ∧ (∀ t s, t < k → s < 258 → L1 t s ≤ 100))
        case atStart => exact ⟨0, by omega, rfl, rfl, fun t s h => by omega⟩
        case round =>
          obtain ⟨k, hk, rfl, hwr, hall⟩ := hrel
          rw [hwr]; clear hwr
          have HK : Hid (k + gk = n1) := hk
          have HA1 : Hid (∀ t s, t < k → s < 258 → L1 t s ≤ 100) := hall
          by_cases hkn : k < n1
          · have hkn' : (k : Int) < n1 := by omega
            obtain ⟨g0, hg0⟩ : ∃ g0, g0 = gk := ⟨_, rfl⟩
            have HG0 : Hid (g0 = gk) := hg0
            clear hk hall hg0
            go_wp2_with fail
            go_loopg [24] 258 (fun g i wr => ∃ s : Nat, s + g = 258 ∧ i = .int .i64 s ∧ wr = wo ∧ (∀ s', s' < s → L1 k s' ≤ 100))
            case atStart => exact ⟨0, by omega, rfl, rfl, fun s h => by omega⟩
            case round =>
              obtain ⟨s, hs, rfl, hwr, hall⟩ := hrel
              rw [hwr]; clear hwr
              have HS : Hid (s + gk = 258) := hs
              have HAS : Hid (∀ s', s' < s → L1 k s' ≤ 100) := hall
              by_cases hs258 : s < 258
              · have hs258' : (s : Int) < 258 := by omega
                have hk6 : (k : Int) < 6 := by omega
                have hc := HL1'.out k s (by omega) hs258
                rw [Nat.zero_add] at hc
                clear hs hall
                by_cases h100 : L1 k s ≤ 100
                · have h100' : ¬ (100 : Int) < (L1 k s : Nat) := by omega
                  go_wp2_with fail
                  have hs := HS.out
                  go_roundg (gk - 1)
                  case rel =>
                    refine ⟨s + 1, by omega, by go_num, rfl, fun s' hs' => ?_⟩
                    rcases Nat.lt_succ_iff_lt_or_eq.1 hs' with h' | rfl
                    · exact HAS.out s' h'
                    · exact h100
                  case measure => omega
                · have h100' : (100 : Int) < (L1 k s : Nat) := by omega
                  go_wp2_with fail
                  go_ret
                  exact ⟨HD.out, _, rfl, fun h => by cases h⟩
              · have hs2 : s = 258 := by omega
                have hs258' : ¬ (s : Int) < 258 := by omega
                clear hs hall
                go_wp2_with fail
                have hk := HK.out
                go_roundg (n1 - (k + 1))
                case rel =>
                  refine ⟨k + 1, by omega, by go_num, rfl, fun t s' ht hs' => ?_⟩
                  rcases Nat.lt_succ_iff_lt_or_eq.1 ht with h' | rfl
                  · exact HA1.out t s' h' hs'
                  · exact HAS.out s' (by omega)
                case measure => have := HG0.out; omega
          · have hkn2 : k = n1 := by omega
            have hkn' : ¬ (k : Int) < n1 := by omega
            rw [hkn2] at HA1
            clear hk hall HK hkn2
            go_wp2_with fail
            go_ret
            exact ⟨HD.out, _, rfl, fun _ => ⟨hGrp.out, HA0.out, HA1.out⟩⟩
end Go.Proofs.Qxb6601576a
