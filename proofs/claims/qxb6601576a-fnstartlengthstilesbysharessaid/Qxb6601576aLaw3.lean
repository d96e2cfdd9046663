import Derived.Test.Qxb6601576aSum
namespace Go.Proofs.Qxb6601576a
open Go.RowKit

theorem gE_iff (C : Nat → Int) (alp : Nat) (sh : Int) (pos g : Nat) : gE C alp sh pos g = true ↔ pos ≤ g ∧ g ≤ alp ∧ (g < alp → sh ≤ ps C g - ps C pos) ∧ (pos < g → ps C (g - 1) - ps C pos < sh) := by
  simp only [gE, Bool.and_eq_true, Bool.or_eq_true, Bool.not_eq_true', decide_eq_true_eq, decide_eq_false_iff_not]
  constructor
  · rintro ⟨⟨⟨h1, h2⟩, h3⟩, h4⟩
    exact ⟨h1, h2, fun h => h3.elim (fun h' => absurd h h') id, fun h => h4.elim (fun h' => absurd h h') id⟩
  · rintro ⟨h1, h2, h3, h4⟩
    refine ⟨⟨⟨h1, h2⟩, ?_⟩, ?_⟩
    · by_cases h : g < alp
      · exact .inr (h3 h)
      · exact .inl h
    · by_cases h : pos < g
      · exact .inr (h4 h)
      · exact .inl h

theorem gE_greedy (C : Nat → Int) (alp n k f : Nat) (hf : f ≤ alp) : gE C alp (share C n k f) f (greedy C alp n k f) = true := by
  have h := greedy_spec C alp n k f hf
  rw [gE_iff]
  exact ⟨h.1, h.2.1, h.2.2.1, fun hlt => h.2.2.2 _ (by omega) (by omega)⟩

/-- stepBack, an odd k below n-1. -/
def stepped (sb : Bool) (n k : Nat) : Bool := sb && decide (k % 2 = 1) && decide (k + 1 < n)

theorem short_eq (sb : Bool) (n k f g : Nat) : short sb n k f g = (stepped sb n k && decide (f + 1 < g)) := rfl

theorem total_walk (b : Nat) (C : Nat → Int) (w : World) (hC : CountsAt w b C) (hF : Fits C) :
    Calls Try.prog 11 #[.pointer (some ⟨b, 0, none⟩), .int .i64 0, .int .i64 258] w fun e w' => e = .returned (.int .i64 (ps C 258)) ∧ w' = w := by
  refine (sum_walk b C 0 258 w hC hF (by omega) (Nat.le_refl _)).mono ?_
  rintro e w' ⟨rfl, hw⟩
  exact ⟨ret_int (by rw [show ps C 0 = 0 from rfl]; omega), hw⟩

theorem lenAt_else (C : Nat → Int) (alp n : Nat) (sb : Bool) (t s : Nat) (h : n ≤ t ∨ alp ≤ s) : lenAt C alp n sb n t s = 0 := by
  unfold lenAt; rw [if_neg (by omega)]
theorem lenAt_in (C : Nat → Int) (alp n : Nat) (sb : Bool) (k t s : Nat) (ht : t + 1 + k = n) (h1 : E C alp n sb k ≤ s) (h2 : s < E C alp n sb (k + 1)) : lenAt C alp n sb n t s = 0 := by
  unfold lenAt
  rw [show n - 1 - t = k by omega, show n - t = k + 1 by omega, if_neg (by omega)]
theorem lenAt_off (C : Nat → Int) (alp n : Nat) (sb : Bool) (k t s : Nat) (ht : t + 1 + k = n) (hs : s < alp) (h : ¬ (E C alp n sb k ≤ s ∧ s < E C alp n sb (k + 1))) : lenAt C alp n sb n t s = 15 := by
  unfold lenAt
  rw [show n - 1 - t = k by omega, show n - t = k + 1 by omega, if_pos ⟨by omega, by omega, hs, h⟩]

theorem end_plain (C : Nat → Int) (alp n : Nat) (sb : Bool) (k : Nat) (h : stepped sb n k = false) : gE C alp (share C n k (E C alp n sb k)) (E C alp n sb k) (E C alp n sb (k + 1)) = true := by
  have e : E C alp n sb (k + 1) = greedy C alp n k (E C alp n sb k) := by
    rw [E, nextEnd, if_neg]
    rw [short_eq, h]
    simp
  rw [e]
  exact gE_greedy C alp n k _ (E_le C alp n sb k)

theorem end_stepped (C : Nat → Int) (alp n : Nat) (sb : Bool) (k : Nat) (h : stepped sb n k = true) :
    (E C alp n sb k < E C alp n sb (k + 1) ∧ gE C alp (share C n k (E C alp n sb k)) (E C alp n sb k) (E C alp n sb (k + 1) + 1) = true) ∨
    (E C alp n sb (k + 1) ≤ E C alp n sb k + 1 ∧ gE C alp (share C n k (E C alp n sb k)) (E C alp n sb k) (E C alp n sb (k + 1)) = true) := by
  have hg := gE_greedy C alp n k _ (E_le C alp n sb k)
  have hs := greedy_spec C alp n k _ (E_le C alp n sb k)
  by_cases hf : E C alp n sb k + 1 < greedy C alp n k (E C alp n sb k)
  · have e : E C alp n sb (k + 1) = greedy C alp n k (E C alp n sb k) - 1 := by
      rw [E, nextEnd, if_pos]
      rw [short_eq, h]
      simp [hf]
    left
    rw [e, show greedy C alp n k (E C alp n sb k) - 1 + 1 = greedy C alp n k (E C alp n sb k) by omega]
    exact ⟨by omega, hg⟩
  · have e : E C alp n sb (k + 1) = greedy C alp n k (E C alp n sb k) := by
      rw [E, nextEnd, if_neg]
      simp [short, hf]
    right
    rw [e]
    exact ⟨by omega, hg⟩

set_option maxHeartbeats 1000000 in
set_option maxRecDepth 100000 in
theorem law3_in (C : Nat → Int) (alp n : Nat) (sb : Bool) (w : World) (ha : alp ≤ 258) (hn : n ≤ 6) :
    Calls Try.prog 3 #[.agg (cells C), .int .i64 (alp : Nat), .int .i64 (n : Nat), .bool sb] w (Good w) := by
  have hC0 := cells_at C w
  obtain ⟨A, hA⟩ : ∃ A, A = cells C := ⟨_, rfl⟩
  rw [← hA] at hC0 ⊢
  clear hA
  have hb0 : Below w.heap.size w (w.alloc (.cells A 22)) := (Below.refl _ _).alloc (Nat.le_refl _) _
  obtain ⟨W0, hW0⟩ : ∃ W0, W0 = w.alloc (.cells A 22) := ⟨_, rfl⟩
  rw [← hW0] at hC0 hb0
  have HW0 : Hid (W0 = w.alloc (.cells A 22)) := hW0
  clear hW0
  have HB0 : Hid (Below w.heap.size w W0) := hb0
  clear hb0
  obtain ⟨Z, hZ⟩ : ∃ Z, Z = Array.replicate 1548 (Value.int .u8 0) := ⟨_, rfl⟩
  have hz := zero24
  rw [← hZ] at hz
  have HZs : Hid (Z.size = 1548) := by show _ = _; rw [hZ]; simp
  clear hZ
  have ha1 : ¬ (alp : Int) < 0 := by omega
  have ha2 : ¬ (258 : Int) < alp := by omega
  have hn2 : ¬ (n : Int) < 0 := by omega
  have hn3 : ¬ (6 : Int) < n := by omega
  go_enter Try.func3, Try.ntmps3
  go_wp2_with fail
  rw [← HW0.out]
  clear HW0
  go_loopg [9] 258 (fun g i wr => ∃ k : Nat, k + g = 258 ∧ i = .int .i64 k ∧ (∀ j, j < k → 0 ≤ C j ∧ C j ≤ 4194304) ∧ wr = W0)
  case atStart => exact ⟨0, by omega, rfl, fun j hj => by omega, rfl⟩
  case round =>
    obtain ⟨k, hk, rfl, hall, hwr⟩ := hrel
    rw [hwr]
    clear hwr
    by_cases hlt : k < 258
    · have hc := hC0 k hlt
      have hlt' : (k : Int) < 258 := by omega
      have HK : Hid (k + gk = 258) := hk
      have HA : Hid (∀ j, j < k → 0 ≤ C j ∧ C j ≤ 4194304) := hall
      clear hk hall
      by_cases hneg : C k < 0
      · go_wp2_with fail
        go_ret
        exact ⟨rfl, HB0.out⟩
      have hneg' : decide (C k < 0) = false := decide_eq_false hneg
      by_cases hbig : 4194304 < C k
      · go_wp2_with fail
        go_ret
        exact ⟨rfl, HB0.out⟩
      · go_wp2_with fail
        have hk := HK.out
        go_roundg (gk - 1)
        case rel =>
          refine ⟨k + 1, by omega, by go_num, fun j hj => ?_, rfl⟩
          rcases Nat.lt_succ_iff_lt_or_eq.1 hj with h | rfl
          · exact HA.out j h
          · omega
        case measure => omega
    · have hF : Fits C := fun j hj => hall j (by omega)
      have hge : ¬ (k : Int) < 258 := by omega
      clear hall hk
      go_wp2_with fail
      refine (zzStart _ C alp n sb _ hC0 hF ha hn).mono ?_
      rintro e w1 ⟨L, rfl, hLs, hLv, hb1⟩
      have hres : (w1.alloc (.cells Z 24)).heap[w1.heap.size]? = some (.cells Z 24 (0, 0)) := heap_alloc_new w1 _
      have hZs : Z.size = L.size := by rw [hLs]; exact HZs.out
      have hci : (Try.prog.info? 24).map (·.size) = some L.size := by rw [hLs]; exact (zero_of_info Try.zinfo24).2
      have hc1 := oneCells hLs hLv
      have HV : Hid (∀ p, p < 1548 → L[p]? = some (lenRow C alp n sb n p)) := hLv
      have HB1 : Hid (Below W0.heap.size W0 w1) := hb1
      clear hLv hLs hb1
      go_wp2_with (refine wpList_store_row rfl 24 (.tmp 10) (.tmp 52) rfl w1.heap.size L rfl rfl 24 Z hres hci hZs hc1 ?_)
      obtain ⟨W2, hW2⟩ : ∃ W2, W2 = (w1.alloc (.cells Z 24)).setRow w1.heap.size L := ⟨_, rfl⟩
      rw [← hW2]
      have hL2 : W2.heap[w1.heap.size]? = some (.cells L 24 (0, 0)) := by rw [hW2]; exact setRow_heap _ _ Z L 24 _ hres
      have hb12 : Below w1.heap.size w1 W2 := by rw [hW2]; exact below_setRow ((Below.refl _ _).alloc (Nat.le_refl _) _) (Nat.le_refl _) L
      have hC2 := (hC0.below HB1.out).below hb12
      have hcell : ∀ t s, t < 6 → s < 258 → W2.cell? ⟨w1.heap.size, t * 258 + s, none⟩ = some (.int .u8 (lenAt C alp n sb n t s)) := by
        intro t s ht hs
        rw [World.cell?]
        simp only [hL2]
        have := HV.out (t * 258 + s) (by omega)
        rw [lenRow, show (t * 258 + s) / 258 = t by omega, show (t * 258 + s) % 258 = s by omega] at this
        simpa using this
      have HB2 : Hid (Below w.heap.size w W2) := (HB0.out.trans (HB1.out.mono HB0.out.size)).trans (hb12.mono (Nat.le_trans HB0.out.size HB1.out.size))
      clear hW2 hL2 hb12 HV HB1 HB0 hC0 hc1 hci hZs hres hz HZs hge
      obtain ⟨G, hG⟩ : ∃ G, G = w1.heap.size := ⟨_, rfl⟩
      rw [← hG] at hcell ⊢
      clear hG
      go_wp2_with fail
      refine (total_walk _ C _ hC2 hF).mono ?_
      rintro e w3 ⟨rfl, hw3⟩
      rw [hw3]; clear hw3 w3
      go_wp2_with fail
      go_loopg [12] 6 (fun g i wr => ∃ t : Nat, t + g = 6 ∧ i = .int .i64 t ∧ wr = W2)
      case atStart => exact ⟨0, by omega, rfl, rfl⟩
      case round =>
        obtain ⟨t, ht, rfl, hwr⟩ := hrel
        rw [hwr]
        clear hwr
        by_cases ht6 : t < 6
        · have ht6' : (t : Int) < 6 := by omega
          have HT : Hid (t + gk = 6) := ht
          clear ht
          go_wp2_with fail
          go_loopg [13] 258 (fun g i wr => ∃ s : Nat, s + g = 258 ∧ i = .int .i64 s ∧ wr = W2)
          case atStart => exact ⟨0, by omega, rfl, rfl⟩
          case round =>
            obtain ⟨s, hs, rfl, hwr⟩ := hrel
            rw [hwr]
            clear hwr
            by_cases hs258 : s < 258
            · have hs258' : (s : Int) < 258 := by omega
              have hc := hcell t s ht6 hs258
              have HS : Hid (s + gk = 258) := hs
              clear hs
              by_cases hnt : n ≤ t
              · have hnt' : (n : Int) ≤ t := by omega
                have hz := lenAt_else C alp n sb t s (.inl hnt)
                have hz' : (lenAt C alp n sb n t s != 0) = false := by simp [hz]
                clear hz
                go_wp2_with fail
                have hs := HS.out
                go_roundg (gk - 1)
                case rel => exact ⟨s + 1, by omega, by go_num, rfl⟩
                case measure => omega
              · have hnt' : decide ((n : Int) ≤ t) = false := decide_eq_false (by omega)
                by_cases has : alp ≤ s
                · have has' : (alp : Int) ≤ s := by omega
                  have hz := lenAt_else C alp n sb t s (.inr has)
                  have hz' : (lenAt C alp n sb n t s != 0) = false := by simp [hz]
                  clear hz
                  go_wp2_with fail
                  have hs := HS.out
                  go_roundg (gk - 1)
                  case rel => exact ⟨s + 1, by omega, by go_num, rfl⟩
                  case measure => omega
                · have has' : decide ((alp : Int) ≤ s) = false := decide_eq_false (by omega)
                  go_wp2_with fail
                  have hs := HS.out
                  go_roundg (gk - 1)
                  case rel => exact ⟨s + 1, by omega, by go_num, rfl⟩
                  case measure => omega
            · have hs258' : ¬ (s : Int) < 258 := by omega
              go_wp2_with fail
              have ht := HT.out
              go_roundg (6 - (t + 1))
              case rel => exact ⟨t + 1, by omega, by go_num, rfl⟩
              case measure => omega
        · have ht6' : ¬ (t : Int) < 6 := by omega
          clear ht
          go_wp2_with fail
          go_loopg [14, 15, 16] n (fun g p bf i wr => ∃ k : Nat, k + g = n ∧ i = .int .i64 k ∧ p = .int .i64 (E C alp n sb k : Nat) ∧ bf = .int .i64 (ps C (E C alp n sb k)) ∧ wr = W2)
          case atStart => exact ⟨0, by omega, rfl, rfl, rfl, rfl⟩
          case round =>
            obtain ⟨k, hk, rfl, rfl, rfl, hwr⟩ := hrel
            rw [hwr]
            clear hwr
            by_cases hkn : k < n
            · have hkn' : (k : Int) < n := by omega
              have HK : Hid (k + gk = n) := hk
              obtain ⟨t, ht⟩ : ∃ t, t + 1 + k = n := ⟨n - 1 - k, by omega⟩
              have hel := E_le C alp n sb k
              have hel1 := E_le C alp n sb (k + 1)
              have hst := E_step C alp n sb k
              have hpl := end_plain C alp n sb k
              have hps := end_stepped C alp n sb k
              have hin := lenAt_in C alp n sb k t
              have hoff := lenAt_off C alp n sb k t
              obtain ⟨f, hf⟩ : ∃ f, f = E C alp n sb k := ⟨_, rfl⟩
              obtain ⟨e1, he1⟩ : ∃ e1, e1 = E C alp n sb (k + 1) := ⟨_, rfl⟩
              rw [← hf] at hel hst hpl hps hin hoff ⊢
              rw [← he1] at hel1 hst hpl hps hin hoff
              have HE1 : Hid (e1 = E C alp n sb (k + 1)) := he1
              have hin' : Hid (∀ s, f ≤ s → s < e1 → lenAt C alp n sb n t s = 0) := fun s => hin s ht
              have hoff' : Hid (∀ s, s < alp → ¬ (f ≤ s ∧ s < e1) → lenAt C alp n sb n t s = 15) := fun s => hoff s ht
              have HPL : Hid (stepped sb n k = false → gE C alp (share C n k f) f e1 = true) := hpl
              have HPS : Hid (stepped sb n k = true → f < e1 ∧ gE C alp (share C n k f) f (e1 + 1) = true ∨ e1 ≤ f + 1 ∧ gE C alp (share C n k f) f e1 = true) := hps
              have ht6 : t < 6 := by omega
              have ht6' : (t : Int) < 6 := by omega
              have HTT : Hid ((n : Int) - 1 - (k : Int) = (t : Int)) := by show _ = _; omega
              have hpf := ps_bound hF f (by omega)
              have hpfe := ps_mono hF hst (by omega)
              have hpe := ps_bound hF e1 (by omega)
              have hp258 := ps_bound hF 258 (Nat.le_refl _)
              have hpf258 := ps_mono hF (show f ≤ 258 by omega) (Nat.le_refl _)
              clear hk hf he1 hin hoff hpl hps ht
              go_upto_block 8 with fail
              rw [HTT.out]
              go_cut [18] (fun en w' => en = .int .i64 (e1 : Nat) ∧ w' = W2)
              case first =>
                go_wp2_with fail
                go_loopg [18] (alp - f) (fun g en wr => ∃ e : Nat, f ≤ e ∧ e ≤ e1 ∧ e + g = alp ∧ en = .int .i64 e ∧ wr = W2)
                case atStart => exact ⟨f, Nat.le_refl _, hst, by omega, rfl, rfl⟩
                case round =>
                  obtain ⟨e, he1, he2, he3, rfl, hwr⟩ := hrel
                  rw [hwr]
                  clear hwr
                  have HE3 : Hid (e + gk = alp) := he3
                  clear he3
                  by_cases hea : e < alp
                  · have hea' : (e : Int) < alp := by omega
                    have hc := hcell t e ht6 (by omega)
                    have he258 : (e : Int) < 258 := by omega
                    by_cases hee : e < e1
                    · have hz := hin'.out e he1 hee
                      have hz' : (lenAt C alp n sb n t e == 0) = true := by simp [hz]
                      clear hz
                      go_wp2_with fail
                      have he3 := HE3.out
                      go_roundg (gk - 1)
                      case rel => exact ⟨e + 1, by omega, by omega, by omega, by go_num, rfl⟩
                      case measure => omega
                    · have hz := hoff'.out e hea (by omega)
                      have hz' : (lenAt C alp n sb n t e == 0) = false := by simp [hz]
                      have HEE : Hid (e = e1) := by show _ = _; omega
                      clear hz
                      go_wp2_with fail
                      go_meet
                      case rel => exact ⟨by rw [HEE.out], rfl⟩
                  · have hea' : decide ((e : Int) < alp) = false := decide_eq_false (by omega)
                    have hee' : e = e1 := by have := HE3.out; omega
                    have HEE : Hid (e = e1) := hee'
                    clear hee'
                    go_wp2_with fail
                    go_meet
                    case rel => exact ⟨by rw [HEE.out], rfl⟩
              case rest =>
              obtain ⟨rfl, hw⟩ := hcut
              rw [hw]; clear hw
              go_upto_block 10 with fail
              go_cut [19] (fun _ w' => w' = W2)
              case first =>
                go_wp2_with fail
                go_loopg [19] alp (fun g i wr => ∃ s : Nat, s + g = alp ∧ i = .int .i64 s ∧ wr = W2)
                case atStart => exact ⟨0, by omega, rfl, rfl⟩
                case round =>
                  obtain ⟨s, hs, rfl, hwr⟩ := hrel
                  rw [hwr]
                  clear hwr
                  have HS : Hid (s + gk = alp) := hs
                  clear hs
                  by_cases hsa : s < alp
                  · have hsa' : (s : Int) < alp := by omega
                    have hc := hcell t s ht6 (by omega)
                    have hs258 : (s : Int) < 258 := by omega
                    by_cases hsf : s < f
                    · have hsf' : (s : Int) < f := by omega
                      have hz := hoff'.out s hsa (by omega)
                      have hz' : (lenAt C alp n sb n t s != 15) = false := by simp [hz]
                      clear hz
                      go_wp2_with fail
                      have hs := HS.out
                      go_roundg (gk - 1)
                      case rel => exact ⟨s + 1, by omega, by go_num, rfl⟩
                      case measure => omega
                    · have hsf' : decide ((s : Int) < f) = false := decide_eq_false (by omega)
                      by_cases hse : e1 ≤ s
                      · have hse' : (e1 : Int) ≤ s := by omega
                        have hz := hoff'.out s hsa (by omega)
                        have hz' : (lenAt C alp n sb n t s != 15) = false := by simp [hz]
                        clear hz
                        go_wp2_with fail
                        have hs := HS.out
                        go_roundg (gk - 1)
                        case rel => exact ⟨s + 1, by omega, by go_num, rfl⟩
                        case measure => omega
                      · have hse' : decide ((e1 : Int) ≤ s) = false := decide_eq_false (by omega)
                        go_wp2_with fail
                        have hs := HS.out
                        go_roundg (gk - 1)
                        case rel => exact ⟨s + 1, by omega, by go_num, rfl⟩
                        case measure => omega
                  · have hsa' : ¬ (s : Int) < alp := by omega
                    go_wp2_with fail
                    go_meet
                    case rel => rfl
              case rest =>
              rw [hcut]; clear hcut
              go_upto_region 35 with fail
              obtain ⟨sh, hsh⟩ : ∃ sh, sh = (ps C 258 - ps C f) / ((n : Int) - k) := ⟨_, rfl⟩
              rw [← hsh]
              have HSH : Hid (share C n k f = sh) := hsh.symm
              clear hsh
              go_cut [21, 140] (fun st x w' => st = .bool (stepped sb n k) ∧ w' = W2)
              case first =>
                cases sb with
                | false =>
                  go_wp2_with fail
                  go_meet
                  case rel => exact ⟨by simp [stepped], rfl⟩
                | true =>
                  by_cases h2 : k % 2 = 1
                  · have h2' : ((k : Int) % 2 == 1) = true := by simp; omega
                    by_cases h3 : k + 1 < n
                    · have h3' : (k : Int) < (n : Int) - 1 := by omega
                      go_wp2_with fail
                      go_meet
                      case rel => exact ⟨by simp [stepped, h2, h3], rfl⟩
                    · have h3' : decide ((k : Int) < (n : Int) - 1) = false := decide_eq_false (by omega)
                      go_wp2_with fail
                      go_meet
                      case rel => exact ⟨by simp [stepped, h3], rfl⟩
                  · have h2' : ((k : Int) % 2 == 1) = false := by simp; omega
                    go_wp2_with fail
                    go_meet
                    case rel => exact ⟨by simp [stepped, h2], rfl⟩
              case rest =>
              obtain ⟨rfl, hw⟩ := hcut
              rw [hw]; clear hw
              rw [HSH.out] at HPL HPS
              have e1p : ((e1 : Int) + 1) = ((e1 + 1 : Nat) : Int) := by omega
              have E1P : Hid (((e1 : Int) + 1) = ((e1 + 1 : Nat) : Int)) := e1p
              clear e1p
              obtain ⟨st, hst'⟩ : ∃ st, st = stepped sb n k := ⟨_, rfl⟩
              rw [← hst'] at HPL HPS ⊢
              clear hst'
              go_upto_if 141 with fail
              go_cut [22] (fun ok w' => ok = .bool true ∧ w' = W2)
              case first =>
                cases st with
                | false =>
                  have hg := HPL.out rfl
                  go_wp2_with (go_at_call 12; refine (greedy_walk _ C f e1 alp sh _ hC2 hF ha (by omega) (by omega)).mono ?_; rintro e w4 ⟨rfl, hw4⟩; rw [hw4]; clear hw4 w4)
                  go_meet
                  case rel => exact ⟨by first | rfl | rw [hg], rfl⟩
                | true =>
                  have hor := HPS.out rfl
                  have HOr : Hid (f < e1 ∧ gE C alp sh f (e1 + 1) = true ∨ e1 ≤ f + 1 ∧ gE C alp sh f e1 = true) := hor
                  clear hor
                  by_cases hfe : f < e1
                  · have hfe' : (f : Int) < e1 := by omega
                    cases hg1 : gE C alp sh f (e1 + 1) with
                    | true =>
                      go_wp2_with fail
                      rw [E1P.out]
                      refine (greedy_walk _ C f (e1 + 1) alp sh _ hC2 hF ha (by omega) (by omega)).mono ?_
                      rintro e w4 ⟨rfl, hw4⟩
                      rw [hw4, hg1]; clear hw4 w4
                      go_wp2_with fail
                      go_meet
                      case rel => exact ⟨rfl, rfl⟩
                    | false =>
                      have h2 : e1 ≤ f + 1 ∧ gE C alp sh f e1 = true := by
                        rcases HOr.out with h | h
                        · rw [hg1] at h; cases h.2
                        · exact h
                      have h21 : (e1 : Int) ≤ f + 1 := by omega
                      have h22 := h2.2
                      clear h2
                      go_wp2_with fail
                      rw [E1P.out]
                      refine (greedy_walk _ C f (e1 + 1) alp sh _ hC2 hF ha (by omega) (by omega)).mono ?_
                      rintro e w4 ⟨rfl, hw4⟩
                      rw [hw4, hg1]; clear hw4 w4
                      go_wp2_with fail
                      refine (greedy_walk _ C f e1 alp sh _ hC2 hF ha (by omega) (by omega)).mono ?_
                      rintro e w4 ⟨rfl, hw4⟩
                      rw [hw4, h22]; clear hw4 w4
                      go_wp2_with fail
                      go_meet
                      case rel => exact ⟨rfl, rfl⟩
                  · have hfe' : decide ((f : Int) < e1) = false := decide_eq_false (by omega)
                    have h2 : e1 ≤ f + 1 ∧ gE C alp sh f e1 = true := by
                      rcases HOr.out with h | h
                      · exact absurd h.1 hfe
                      · exact h
                    have h21 : (e1 : Int) ≤ f + 1 := by omega
                    have h22 := h2.2
                    clear h2
                    go_wp2_with fail
                    refine (greedy_walk _ C f e1 alp sh _ hC2 hF ha (by omega) (by omega)).mono ?_
                    rintro e w4 ⟨rfl, hw4⟩
                    rw [hw4, h22]; clear hw4 w4
                    go_wp2_with fail
                    go_meet
                    case rel => exact ⟨rfl, rfl⟩
              case rest =>
              obtain ⟨rfl, hw⟩ := hcut
              rw [hw]; clear hw
              go_wp2_with fail
              refine (sum_walk _ C f e1 _ hC2 hF hst (by omega)).mono ?_
              rintro e w4 ⟨rfl, hw4⟩
              rw [hw4]; clear hw4 w4
              go_wp2_with fail
              have hk := HK.out
              go_roundg (n - (k + 1))
              case rel => exact ⟨k + 1, by omega, by go_num, by rw [HE1.out], by rw [← HE1.out]; congr 1; omega, rfl⟩
              case measure => omega
            · have hkn' : ¬ (k : Int) < n := by omega
              go_wp2_with fail
              go_ret
              exact ⟨rfl, HB2.out⟩

set_option maxHeartbeats 1000000 in
set_option maxRecDepth 100000 in
theorem law3_out (A : Array Value) (alp n : Int) (sb : Bool) (w : World) (h : ¬ (0 ≤ alp ∧ alp ≤ 258 ∧ 0 ≤ n ∧ n ≤ 6)) :
    Calls Try.prog 3 #[.agg A, .int .i64 alp, .int .i64 n, .bool sb] w (Good w) := by
  have hb0 : Below w.heap.size w (w.alloc (.cells A 22)) := (Below.refl _ _).alloc (Nat.le_refl _) _
  by_cases h1 : alp < 0
  · go_enter Try.func3, Try.ntmps3
    go_wp2_with fail
    go_ret
    exact ⟨rfl, hb0⟩
  have h1' : decide (alp < 0) = false := decide_eq_false h1
  by_cases h2 : 258 < alp
  · go_enter Try.func3, Try.ntmps3
    go_wp2_with fail
    go_ret
    exact ⟨rfl, hb0⟩
  by_cases h3 : n < 0
  · go_enter Try.func3, Try.ntmps3
    go_wp2_with fail
    go_ret
    exact ⟨rfl, hb0⟩
  have h3' : decide (n < 0) = false := decide_eq_false h3
  have h4 : 6 < n := by omega
  go_enter Try.func3, Try.ntmps3
  go_wp2_with fail
  go_ret
  exact ⟨rfl, hb0⟩

theorem law3_walk (C : Nat → Int) (alp n : Int) (sb : Bool) (w : World) : Calls Try.prog 3 #[.agg (cells C), .int .i64 alp, .int .i64 n, .bool sb] w (Good w) := by
  by_cases h : 0 ≤ alp ∧ alp ≤ 258 ∧ 0 ≤ n ∧ n ≤ 6
  · obtain ⟨a, rfl⟩ := Int.eq_ofNat_of_zero_le h.1
    obtain ⟨m, rfl⟩ := Int.eq_ofNat_of_zero_le (show 0 ≤ n by omega)
    exact law3_in C a m sb w (by omega) (by omega)
  · exact law3_out (cells C) alp n sb w h
end Go.Proofs.Qxb6601576a
