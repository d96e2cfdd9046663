import Derived.Test.Qxb6601576aArr
namespace Go.Proofs.Qxb6601576a
open Go.RowKit

/-- What startLengths hands back. -/
def StartSays (C : Nat → Int) (alp n : Nat) (sb : Bool) (w : World) (e : Ending) (w' : World) : Prop :=
  ∃ L : Array Value, e = .returned (.agg L) ∧ L.size = 1548 ∧ (∀ p, p < 1548 → L[p]? = some (lenRow C alp n sb n p)) ∧ Below w.heap.size w w'

theorem oneCells {L : Array Value} {C : Nat → Int} {alp n : Nat} {sb : Bool} (hs : L.size = 1548) (hv : ∀ p, p < 1548 → L[p]? = some (lenRow C alp n sb n p)) : L.all (·.oneCell') = true := by
  rw [Array.all_eq_true_iff_forall_mem]
  intro v hv'
  obtain ⟨i, hi, rfl⟩ := Array.mem_iff_getElem.1 hv'
  have := hv i (by omega)
  rw [Array.getElem?_eq_getElem hi] at this
  injection this with this
  rw [this]; rfl

set_option maxHeartbeats 400000 in
theorem zzStart (b : Nat) (C : Nat → Int) (alp n : Nat) (sb : Bool) (w : World) (hC : CountsAt w b C) (hF : Fits C) (ha : alp ≤ 258) (hn : n ≤ 6) :
    Calls Try.prog 10 #[.pointer (some ⟨b, 0, none⟩), .int .i64 (alp : Nat), .int .i64 (n : Nat), .bool sb] w (StartSays C alp n sb w) := by
  obtain ⟨Z, hZ⟩ : ∃ Z, Z = Array.replicate 1548 (Value.int .u8 0) := ⟨_, rfl⟩
  have hz := zero24
  rw [← hZ] at hz
  have HZs : Hid (Z.size = 1548) := by show _ = _; rw [hZ]; simp
  clear hZ
  have hb0 : Below w.heap.size w (w.alloc (.cells Z 24)) := (Below.refl _ _).alloc (Nat.le_refl _) _
  have hC0 := hC.below hb0
  go_enter Try.func10, Try.ntmps10
  go_wp2_with fail
  refine (start_walk b C alp n sb _ hC0 hF ha hn).mono ?_
  rintro e w1 ⟨L, rfl, hLs, hLv, hb1⟩
  have hres : w1.heap[w.heap.size]? = some (.cells Z 24 (0, 0)) := (hb1.block _ (by simp)).trans (heap_alloc_new w _)
  have hZs : Z.size = L.size := by rw [hLs]; exact HZs.out
  have hci : (Try.prog.info? 24).map (·.size) = some L.size := by rw [hLs]; exact (zero_of_info Try.zinfo24).2
  have hc1 := oneCells hLs hLv
  have HV : Hid (∀ p, p < 1548 → L[p]? = some (lenRow C alp n sb n p)) := hLv
  have HCS : Hid (L.size = 1548) := hLs
  have HB : Hid (Below w.heap.size w w1) := hb0.trans (hb1.mono (by simp))
  clear hLv hLs hb1 hb0
  go_wp2_with (refine wpList_store_row rfl 24 (.tmp 8) (.tmp 13) rfl w.heap.size L rfl rfl 24 Z hres hci hZs hc1 ?_)
  refine bodyPost_ret (v := .agg L) (results_cell_row (P := Try.prog) (p := 8) (ty := 24) rfl _ _ w.heap.size 24 L (0, 0) _ rfl (setRow_heap w1 w.heap.size Z L 24 (0, 0) hres) Try.underlying24 rfl hci) rfl ⟨L, rfl, HCS.out, HV.out, ?_⟩
  exact below_setRow HB.out (Nat.le_refl _) L

/-- The array argument: 258 integers. -/
def cells (C : Nat → Int) : Array Value := ((List.range 258).map fun i => Value.int .i64 (C i)).toArray

theorem cells_at (C : Nat → Int) (w : World) : CountsAt (w.alloc (.cells (cells C) 22)) w.heap.size C := by
  intro i hi
  have h : (w.alloc (.cells (cells C) 22)).heap[w.heap.size]? = some (.cells (cells C) 22 (0, 0)) := heap_alloc_new w _
  rw [World.cell?]
  simp only [h]
  simp [cells, hi]

/-- What the laws answer. -/
def Good (w : World) (e : Ending) (w' : World) : Prop := e = .returned (.bool true) ∧ Below w.heap.size w w'

set_option maxHeartbeats 1000000 in
set_option maxRecDepth 100000 in
theorem law4_in (C : Nat → Int) (alp n : Nat) (sb : Bool) (w : World) (ha : alp ≤ 258) (hn1 : 1 ≤ n) (hn : n ≤ 6) :
    Calls Try.prog 4 #[.agg (cells C), .int .i64 (alp : Nat), .int .i64 (n : Nat), .bool sb] w (Good w) := by
  have hC0 := cells_at C w
  obtain ⟨A, hA⟩ : ∃ A, A = cells C := ⟨_, rfl⟩
  rw [← hA] at hC0 ⊢
  clear hA
  have hb0 : Below w.heap.size w (w.alloc (.cells A 22)) := (Below.refl _ _).alloc (Nat.le_refl _) _
  obtain ⟨W0, hW0⟩ : ∃ W0, W0 = w.alloc (.cells A 22) := ⟨_, rfl⟩
  rw [← hW0] at hC0 hb0
  have HW0 : Hid (W0 = w.alloc (.cells A 22)) := hW0
  have HSz : Hid (w.heap.size < W0.heap.size) := by show _ < _; rw [hW0]; simp
  clear hW0
  have HB0 : Hid (Below w.heap.size w W0) := hb0
  clear hb0
  obtain ⟨Z, hZ⟩ : ∃ Z, Z = Array.replicate 1548 (Value.int .u8 0) := ⟨_, rfl⟩
  have hz := zero24
  rw [← hZ] at hz
  have HZs : Hid (Z.size = 1548) := by show _ = _; rw [hZ]; simp
  clear hZ
  have ha1 : ¬ (alp : Int) < 0 := by omega
  have ha2 : ¬ (258 : Int) < alp := by omega
  have hn2 : ¬ (n : Int) < 1 := by omega
  have hn3 : ¬ (6 : Int) < n := by omega
  go_enter Try.func4, Try.ntmps4
  go_wp2_with fail
  rw [← HW0.out]
  clear HW0
  go_loopg [9] 258 (fun g i wr => ∃ k : Nat, k + g = 258 ∧ i = .int .i64 k ∧ (∀ j, j < k → 0 ≤ C j ∧ C j ≤ 4194304) ∧ wr = W0)
  case atStart => exact ⟨0, by omega, rfl, fun j hj => by omega, rfl⟩
  case round =>
    obtain ⟨k, hk, rfl, hall, hwr⟩ := hrel
    rw [hwr]
    clear hwr
    by_cases hlt : k < 258
    · have hc := hC0 k hlt
      have hlt' : (k : Int) < 258 := by omega
      have HK : Hid (k + gk = 258) := hk
      have HA : Hid (∀ j, j < k → 0 ≤ C j ∧ C j ≤ 4194304) := hall
      clear hk hall
      by_cases hneg : C k < 0
      · go_wp2_with fail
        go_ret
        exact ⟨rfl, HB0.out⟩
      have hneg' : decide (C k < 0) = false := decide_eq_false hneg
      by_cases hbig : 4194304 < C k
      · go_wp2_with fail
        go_ret
        exact ⟨rfl, HB0.out⟩
      by_cases hka : k < alp
      · have hka' : decide ((alp : Int) ≤ k) = false := decide_eq_false (by omega)
        go_wp2_with fail
        have hk := HK.out
        go_roundg (gk - 1)
        case rel =>
          refine ⟨k + 1, by omega, by go_num, fun j hj => ?_, rfl⟩
          rcases Nat.lt_succ_iff_lt_or_eq.1 hj with h | rfl
          · exact HA.out j h
          · omega
        case measure => omega
      · have hka' : (alp : Int) ≤ k := by omega
        by_cases hz0 : C k = 0
        · have hz0' : (C k != 0) = false := by simp [hz0]
          have HZ0 : Hid (C k = 0) := hz0
          clear hz0
          go_wp2_with fail
          have hk := HK.out
          go_roundg (gk - 1)
          case rel =>
            refine ⟨k + 1, by omega, by go_num, fun j hj => ?_, rfl⟩
            rcases Nat.lt_succ_iff_lt_or_eq.1 hj with h | rfl
            · exact HA.out j h
            · omega
          case measure => omega
        · have hz0' : (C k != 0) = true := by simp [hz0]
          go_wp2_with fail
          go_ret
          exact ⟨rfl, HB0.out⟩
    · have hF : Fits C := fun j hj => hall j (by omega)
      have hge : ¬ (k : Int) < 258 := by omega
      clear hall hk
      go_wp2_with fail
      refine (zzStart _ C alp n sb _ hC0 hF ha hn).mono ?_
      rintro e w1 ⟨L, rfl, hLs, hLv, hb1⟩
      have hres : (w1.alloc (.cells Z 24)).heap[w1.heap.size]? = some (.cells Z 24 (0, 0)) := heap_alloc_new w1 _
      have hZs : Z.size = L.size := by rw [hLs]; exact HZs.out
      have hci : (Try.prog.info? 24).map (·.size) = some L.size := by rw [hLs]; exact (zero_of_info Try.zinfo24).2
      have hc1 := oneCells hLs hLv
      have HV : Hid (∀ p, p < 1548 → L[p]? = some (lenRow C alp n sb n p)) := hLv
      have HB1 : Hid (Below W0.heap.size W0 w1) := hb1
      clear hLv hLs hb1
      go_wp2_with (refine wpList_store_row rfl 24 (.tmp 10) (.tmp 52) rfl w1.heap.size L rfl rfl 24 Z hres hci hZs hc1 ?_)
      obtain ⟨W2, hW2⟩ : ∃ W2, W2 = (w1.alloc (.cells Z 24)).setRow w1.heap.size L := ⟨_, rfl⟩
      rw [← hW2]
      have hL2 : W2.heap[w1.heap.size]? = some (.cells L 24 (0, 0)) := by rw [hW2]; exact setRow_heap _ _ Z L 24 _ hres
      have hb12 : Below w1.heap.size w1 W2 := by rw [hW2]; exact below_setRow ((Below.refl _ _).alloc (Nat.le_refl _) _) (Nat.le_refl _) L
      have hC2 := (hC0.below HB1.out).below hb12
      have hcell : ∀ t s, t < 6 → s < 258 → W2.cell? ⟨w1.heap.size, t * 258 + s, none⟩ = some (.int .u8 (lenAt C alp n sb n t s)) := by
        intro t s ht hs
        rw [World.cell?]
        simp only [hL2]
        have := HV.out (t * 258 + s) (by omega)
        rw [lenRow, show (t * 258 + s) / 258 = t by omega, show (t * 258 + s) % 258 = s by omega] at this
        simpa using this
      have HB2 : Hid (Below w.heap.size w W2) := (HB0.out.trans (HB1.out.mono HB0.out.size)).trans (hb12.mono (Nat.le_trans HB0.out.size HB1.out.size))
      clear hW2 hL2 hb12 HV HB1 HB0 hC0 hc1 hci hZs hres hz HSz HZs hge
      obtain ⟨G, hG⟩ : ∃ G, G = w1.heap.size := ⟨_, rfl⟩
      rw [← hG] at hcell ⊢
      clear hG
      go_loopg [11] alp (fun g i wr => ∃ s : Nat, s + g = alp ∧ i = .int .i64 s ∧ wr = W2)
      case atStart => exact ⟨0, by omega, rfl, rfl⟩
      case round =>
        obtain ⟨s, hs, rfl, hwr⟩ := hrel
        rw [hwr]
        clear hwr
        by_cases hlt : s < alp
        · have hlt' : (s : Int) < alp := by omega
          have HS : Hid (s + gk = alp) := hs
          clear hs
          go_wp2_with fail
          go_loopg [12, 13] n (fun g fr i wr => ∃ t : Nat, t + g = n ∧ i = .int .i64 t ∧ fr = .int .i64 (cntF C alp n sb s t) ∧ wr = W2)
          case atStart => exact ⟨0, by omega, rfl, rfl, rfl⟩
          case round =>
            obtain ⟨t, ht, rfl, rfl, hwr⟩ := hrel
            rw [hwr]
            clear hwr
            have hcf := cntF_eq C alp n sb s hlt t (by omega)
            have hcb : 0 ≤ cntF C alp n sb s t ∧ cntF C alp n sb s t ≤ 1 := by rw [hcf]; split <;> omega
            by_cases htn : t < n
            · have htn' : (t : Int) < n := by omega
              have hc := hcell t s (by omega) (by omega)
              have ht6 : (t : Int) < 6 := by omega
              have hs258 : (s : Int) < 258 := by omega
              have HT : Hid (t + gk = n) := ht
              clear ht hcf
              by_cases hz : lenAt C alp n sb n t s = 0
              · have hz' : (lenAt C alp n sb n t s == 0) = true := by simp [hz]
                have HZ : Hid (lenAt C alp n sb n t s = 0) := hz
                clear hz
                go_wp2_with fail
                have ht := HT.out
                go_roundg (gk - 1)
                case rel => exact ⟨t + 1, by omega, by go_num, by rw [cntF, if_pos HZ.out], rfl⟩
                case measure => omega
              · have hz' : (lenAt C alp n sb n t s == 0) = false := by simp [hz]
                have HZ : Hid (¬ lenAt C alp n sb n t s = 0) := hz
                clear hz
                go_wp2_with fail
                have ht := HT.out
                go_roundg (gk - 1)
                case rel => exact ⟨t + 1, by omega, by go_num, by rw [cntF, if_neg HZ.out]; simp, rfl⟩
                case measure => omega
            · have htn2 : t = n := by omega
              subst htn2
              have hc2 := hC2 s (by omega)
              have hs258 : (s : Int) < 258 := by omega
              have h1 : ¬ (1 : Int) < cntF C alp t sb s t := by omega
              by_cases hcs : 0 < C s
              · have hone : cntF C alp t sb s t = 1 := by
                  rw [hcf, if_pos]
                  refine ⟨by simp [E], counted_below hF alp t sb ha hn1 s hlt hcs⟩
                have hone' : (cntF C alp t sb s t != 1) = false := by simp [hone]
                clear hone hcf hcb ht
                go_wp2_with fail
                have hs := HS.out
                go_roundg (alp - (s + 1))
                case rel => exact ⟨s + 1, by omega, by go_num, rfl⟩
                case measure => omega
              · have hcs' : decide (0 < C s) = false := decide_eq_false hcs
                clear hcf hcb ht
                go_wp2_with fail
                have hs := HS.out
                go_roundg (alp - (s + 1))
                case rel => exact ⟨s + 1, by omega, by go_num, rfl⟩
                case measure => omega
        · go_wp2_with fail
          go_ret
          exact ⟨rfl, HB2.out⟩

set_option maxHeartbeats 1000000 in
set_option maxRecDepth 100000 in
theorem law4_out (A : Array Value) (alp n : Int) (sb : Bool) (w : World) (h : ¬ (0 ≤ alp ∧ alp ≤ 258 ∧ 1 ≤ n ∧ n ≤ 6)) :
    Calls Try.prog 4 #[.agg A, .int .i64 alp, .int .i64 n, .bool sb] w (Good w) := by
  have hb0 : Below w.heap.size w (w.alloc (.cells A 22)) := (Below.refl _ _).alloc (Nat.le_refl _) _
  by_cases h1 : alp < 0
  · go_enter Try.func4, Try.ntmps4
    go_wp2_with fail
    go_ret
    exact ⟨rfl, hb0⟩
  have h1' : decide (alp < 0) = false := decide_eq_false h1
  by_cases h2 : 258 < alp
  · go_enter Try.func4, Try.ntmps4
    go_wp2_with fail
    go_ret
    exact ⟨rfl, hb0⟩
  by_cases h3 : n < 1
  · go_enter Try.func4, Try.ntmps4
    go_wp2_with fail
    go_ret
    exact ⟨rfl, hb0⟩
  have h3' : decide (n < 1) = false := decide_eq_false h3
  have h4 : 6 < n := by omega
  go_enter Try.func4, Try.ntmps4
  go_wp2_with fail
  go_ret
  exact ⟨rfl, hb0⟩

theorem law4_walk (C : Nat → Int) (alp n : Int) (sb : Bool) (w : World) : Calls Try.prog 4 #[.agg (cells C), .int .i64 alp, .int .i64 n, .bool sb] w (Good w) := by
  by_cases h : 0 ≤ alp ∧ alp ≤ 258 ∧ 1 ≤ n ∧ n ≤ 6
  · obtain ⟨a, rfl⟩ := Int.eq_ofNat_of_zero_le h.1
    obtain ⟨m, rfl⟩ := Int.eq_ofNat_of_zero_le (show 0 ≤ n by omega)
    exact law4_in C a m sb w (by omega) (by omega) (by omega)
  · exact law4_out (cells C) alp n sb w h
end Go.Proofs.Qxb6601576a
