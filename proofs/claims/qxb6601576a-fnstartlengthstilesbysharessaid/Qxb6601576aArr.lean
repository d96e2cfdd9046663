import Derived.Test.Qxb6601576aProg
import Derived.Test.Qxb6601576aPlain
import Derived.WalkKit
import Derived.WalkSpells
import Derived.Deep.QuietTactic
import Derived.BigQuiet
import Derived.Deep.LoopGhost
import Derived.Deep.OwnRows
import Derived.Deep.WholeRow
import Derived.Laws.CopyOwn
import Derived.Deep.CutBlock
import Derived.Deep.DeepCutAuto
namespace Go.Proofs.Qxb6601576a
open Go.RowKit

theorem Try.zinfo24 : (Try.prog.info? 24).map (fun i => (i.zero, i.size)) = some (some (.agg (Array.replicate 1548 (.int .u8 0))), 1548) := by kernel_rfl
theorem zero24 (w : World) : (zeroValue 24).run Try.prog w = .ok (.agg (Array.replicate 1548 (.int .u8 0))) w := (zero_of_info Try.zinfo24).1 w

/-- The counts lie behind the pointer. -/
def CountsAt (w : World) (b : Nat) (C : Nat → Int) : Prop := ∀ i, i < 258 → w.cell? ⟨b, i, none⟩ = some (.int .i64 (C i))

/-- The row of the lengths: code after code. -/
def lenRow (C : Nat → Int) (alp n : Nat) (sb : Bool) (k : Nat) (p : Nat) : Value := .int .u8 (lenAt C alp n sb k (p / 258) (p % 258))
def midRow (C : Nat → Int) (alp n : Nat) (sb : Bool) (k j : Nat) (p : Nat) : Value := .int .u8 (lenMid C alp n sb k j (p / 258) (p % 258))

theorem CountsAt.below {w w' : World} {b : Nat} {C : Nat → Int} (h : CountsAt w b C) (hb : Below w.heap.size w w') : CountsAt w' b C := fun i hi =>
  (hb.cell (p := ⟨b, i, none⟩) (World.block_lt_of_cell? _ _ (h i hi))).trans (h i hi)

/-- What the walk knows of the two blocks of its own. -/
structure SL (w wr : World) (C : Nat → Int) (Z : Array Value) (f : Nat → Value) : Prop where
  below : Below w.heap.size w wr
  res : wr.heap[w.heap.size]? = some (.cells Z 24 (0, 0))
  row : wr.rowIs (w.heap.size + 1) 24 1548 f

set_option maxHeartbeats 1000000 in
set_option maxRecDepth 100000 in
theorem start_walk (b : Nat) (C : Nat → Int) (alp n : Nat) (sb : Bool) (w : World) (hC : CountsAt w b C) (hF : Fits C) (ha : alp ≤ 258) (hn : n ≤ 6) :
    Calls Try.prog 30 #[.pointer (some ⟨b, 0, none⟩), .int .i64 (alp : Nat), .int .i64 (n : Nat), .bool sb] w fun e w' =>
      ∃ L : Array Value, e = .returned (.agg L) ∧ L.size = 1548 ∧ (∀ p, p < 1548 → L[p]? = some (lenRow C alp n sb n p)) ∧ Below w.heap.size w w' := by
  obtain ⟨Z, hZ⟩ : ∃ Z, Z = Array.replicate 1548 (Value.int .u8 0) := ⟨_, rfl⟩
  have hz := zero24
  rw [← hZ] at hz
  have HZ : Hid (Z = Array.replicate 1548 (Value.int .u8 0)) := hZ
  clear hZ
  have hSL0 : SL w ((w.alloc (.cells Z 24)).alloc (.cells Z 24)) C Z (lenRow C alp n sb 0) := by
    refine ⟨((Below.refl _ _).alloc (Nat.le_refl _) _).alloc (by simp) _, ?_, ?_⟩
    · rw [Below.heap_alloc _ _ _ (by simp)]; exact heap_alloc_new w _
    · have := World.rowIs_alloc (w.alloc (.cells Z 24)) Z 24 (lenRow C alp n sb 0) (fun i hi => by
        rw [HZ.out] at hi ⊢
        simp at hi
        simp [hi, lenRow, lenAt]
        omega)
      rw [show (w.alloc (.cells Z 24)).heap.size = w.heap.size + 1 by simp] at this
      rw [show Z.size = 1548 by rw [HZ.out]; simp] at this
      exact this
  have hC0 := hC.below hSL0.below
  have HS0 : Hid (SL w ((w.alloc (.cells Z 24)).alloc (.cells Z 24)) C Z (lenRow C alp n sb 0)) := hSL0
  clear hSL0
  obtain ⟨W0, hW0⟩ : ∃ W0, W0 = (w.alloc (.cells Z 24)).alloc (.cells Z 24) := ⟨_, rfl⟩
  rw [← hW0] at hC0 HS0
  have HW0 : Hid (W0 = (w.alloc (.cells Z 24)).alloc (.cells Z 24)) := hW0
  have HZs : Hid (Z.size = 1548) := by show _ = _; rw [HZ.out]; simp
  clear hW0 HZ
  go_enter Try.func30, Try.ntmps30
  go_wp2
  rw [← HW0.out]
  clear HW0 hz
  go_loopg [10, 21] 258 (fun g l i wr => ∃ k : Nat, k + g = 258 ∧ i = .int .i64 k ∧ l = .int .i64 (ps C k) ∧ wr = W0)
  case atStart => exact ⟨0, by omega, rfl, rfl, rfl⟩
  case round =>
    obtain ⟨k, hk, rfl, rfl, hwr⟩ := hrel
    rw [hwr]
    clear hwr
    by_cases hlt : k < 258
    · have hc := hC0 k hlt
      have hb := ps_bound hF k (by omega)
      have hf := hF k hlt
      have hlt' : (k : Int) < 258 := by omega
      have HK : Hid (k + gk = 258) := hk
      clear hk
      go_wp2
      have hk := HK.out
      go_roundg (gk - 1)
      case rel => exact ⟨k + 1, by omega, by go_num, rfl, rfl⟩
      case measure => omega
    · have hk258 : k = 258 := by omega
      subst hk258
      go_wp2
      clear hk hlt
      go_loopg [10, 11, 31] n (fun g l f i wr => ∃ k : Nat, k + g = n ∧ i = .int .i64 k ∧ f = .int .i64 (E C alp n sb k : Nat) ∧ l = .int .i64 (ps C 258 - ps C (E C alp n sb k)) ∧ SL w wr C Z (lenRow C alp n sb k))
      case atStart => exact ⟨0, by omega, rfl, rfl, by simp [E, ps], HS0.out⟩
      case round =>
        obtain ⟨k, hk, rfl, rfl, rfl, hS⟩ := hrel
        rename World => wo
        clear HS0 hC0
        by_cases hlt : k < n
        · have hCo := hC.below hS.below
          have HS : Hid (SL w wo C Z (lenRow C alp n sb k)) := hS
          have HK : Hid (k + gk = n) := hk
          clear hk hS
          have hel := E_le C alp n sb k
          obtain ⟨f, hf⟩ : ∃ f, f = E C alp n sb k := ⟨_, rfl⟩
          rw [← hf] at hel ⊢
          have HF : Hid (f = E C alp n sb k) := hf
          clear hf
          have hpf := ps_bound hF f (by omega)
          have hpm := ps_mono hF (show f ≤ 258 by omega) (Nat.le_refl _)
          have hp258 := ps_bound hF 258 (Nat.le_refl _)
          have hkn : (k : Int) < n := by omega
          go_upto_block 4 with fail
          obtain ⟨sh, hsh⟩ : ∃ sh, sh = (ps C 258 - ps C f) / ((n : Int) - k) := ⟨_, rfl⟩
          have hsh0 : 0 ≤ sh := by rw [hsh]; exact Int.ediv_nonneg (by omega) (by omega)
          have hsh1 : sh ≤ 4194304 * 258 := by rw [hsh]; exact Int.le_trans (Int.ediv_le_self _ (by omega)) (by omega)
          rw [← hsh]
          have HSH : Hid (share C n k f = sh) := hsh.symm
          clear hsh
          obtain ⟨g, hg⟩ : ∃ g, g = greedy C alp n k f := ⟨_, rfl⟩
          have hgs := greedy_spec C alp n k f hel
          rw [← hg] at hgs
          have HG : Hid (g = greedy C alp n k f) := hg
          have hgg : g = grd C alp sh f (alp - f) f := by rw [hg, greedy, HSH.out]
          have HGG : Hid (g = grd C alp sh f (alp - f) f) := hgg
          clear hg hgg
          have hgf := hgs.1
          have hga := hgs.2.1
          clear hgs
          go_cut [16, 17] (fun got en w' => got = .int .i64 (ps C g - ps C f) ∧ en = .int .i64 (g : Nat) ∧ w' = wo)
          case first =>
            go_wp2_with fail
            go_loopg [16, 17] (alp - f) (fun m got en wr => ∃ e : Nat, f ≤ e ∧ e + m = alp ∧ got = .int .i64 (ps C e - ps C f) ∧ en = .int .i64 (e : Nat) ∧ g = grd C alp sh f (alp - e) e ∧ wr = wo)
            case atStart => exact ⟨f, Nat.le_refl _, by omega, by simp, rfl, HGG.out, rfl⟩
            case round =>
              obtain ⟨e, he1, he2, rfl, rfl, hge, hwr⟩ := hrel
              rw [hwr]
              clear hwr
              have hpe := ps_bound hF e (by omega)
              have hpem := ps_mono hF he1 (show e ≤ 258 by omega)
              have HGE : Hid (g = grd C alp sh f (alp - e) e) := hge
              have HE2 : Hid (e + gk = alp) := he2
              by_cases hea : e < alp
              · have hea' : (e : Int) < alp := by omega
                by_cases hgot : ps C e - ps C f < sh
                · have hc := hCo e (by omega)
                  have hfe := hF e (by omega)
                  have he258 : (e : Int) < 258 := by omega
                  clear hge he2
                  go_wp2_with fail
                  have he2 := HE2.out
                  go_roundg (gk - 1)
                  case rel =>
                    refine ⟨e + 1, by omega, by omega, ?_, by go_num, by rw [HGE.out, grd_go hea hgot], rfl⟩
                    simp only [ps]; congr 1; omega
                  case measure => omega
                · have hgot' : decide (ps C e - ps C f < sh) = false := decide_eq_false hgot
                  have heg : g = e := by rw [hge, grd_stop (by omega)]
                  clear hge he2 HGE
                  subst heg
                  go_wp2_with fail
                  go_meet
                  case rel => exact ⟨rfl, rfl, rfl⟩
              · have hea' : decide ((e : Int) < alp) = false := decide_eq_false (by omega)
                have heg : g = e := by rw [hge, grd_stop (by omega)]
                clear hge he2 HGE
                subst heg
                go_wp2_with fail
                go_meet
                case rel => exact ⟨rfl, rfl, rfl⟩
          case rest =>
            obtain ⟨rfl, rfl, hw⟩ := hcut
            rw [hw]; clear hw
            go_upto_region 15 with fail
            go_cut [74] (fun v w' => v = .bool (short sb n k f g) ∧ w' = wo)
            case first =>
              cases sb with
              | false =>
                go_wp2_with fail
                go_meet
                case rel => exact ⟨by simp [short], rfl⟩
              | true =>
                by_cases h2 : k % 2 = 1
                · have h2' : ((k : Int) % 2 == 1) = true := by simp; omega
                  by_cases h3 : k + 1 < n
                  · have h3' : (k : Int) < (n : Int) - 1 := by omega
                    by_cases h4 : f + 1 < g
                    · have h4' : (f : Int) < (g : Int) - 1 := by omega
                      go_wp2_with fail
                      go_meet
                      case rel => exact ⟨by simp [short, h2, h3, h4], rfl⟩
                    · have h4' : decide ((f : Int) < (g : Int) - 1) = false := decide_eq_false (by omega)
                      go_wp2_with fail
                      go_meet
                      case rel => exact ⟨by simp [short, h4], rfl⟩
                  · have h3' : decide ((k : Int) < (n : Int) - 1) = false := decide_eq_false (by omega)
                    go_wp2_with fail
                    go_meet
                    case rel => exact ⟨by simp [short, h3], rfl⟩
                · have h2' : ((k : Int) % 2 == 1) = false := by simp; omega
                  go_wp2_with fail
                  go_meet
                  case rel => exact ⟨by simp [short, h2], rfl⟩
            case rest =>
            obtain ⟨rfl, hw⟩ := hcut
            rw [hw]; clear hw
            obtain ⟨e, he⟩ : ∃ e, e = E C alp n sb (k + 1) := ⟨_, rfl⟩
            have hee : e = if short sb n k f g then g - 1 else g := by rw [he, E, nextEnd, ← HF.out, ← HG.out]
            have HEE : Hid (e = if short sb n k f g then g - 1 else g) := hee
            have HEk : Hid (e = E C alp n sb (k + 1)) := he
            have hfe : f ≤ e := by have := E_step C alp n sb k; rw [← HF.out, ← he] at this; exact this
            have hea : e ≤ alp := by rw [he]; exact E_le C alp n sb (k + 1)
            clear hee he
            obtain ⟨st, hst⟩ : ∃ st, st = short sb n k f g := ⟨_, rfl⟩
            rw [← hst]
            have HST : Hid (st = short sb n k f g) := hst
            clear hst
            have hpg := ps_bound hF g (by omega)
            have hpgf := ps_mono hF hgf (show g ≤ 258 by omega)
            go_upto_if 74 with fail
            go_cut [16, 17] (fun got en w' => got = .int .i64 (ps C e - ps C f) ∧ en = .int .i64 (e : Nat) ∧ w' = wo)
            case first =>
              cases st with
              | true =>
                have hg1 : f + 1 < g := by have := HST.out; simp [short] at this; omega
                have heg : e + 1 = g := by rw [HEE.out, ← HST.out]; simp; omega
                have HEG : Hid (e + 1 = g) := heg
                have hc := hCo e (by omega)
                have hfe' := hF e (by omega)
                have he258 : (e : Int) < 258 := by omega
                have he0 : (g : Int) - 1 = e := by omega
                clear heg
                go_wp2_with fail
                go_meet
                case rel =>
                  refine ⟨?_, by go_num, rfl⟩
                  rw [← HEG.out]; simp only [ps]; congr 1; omega
              | false =>
                have heg : e = g := by rw [HEE.out, ← HST.out]; simp
                clear HEE HEk
                subst heg
                go_wp2_with fail
                go_meet
                case rel => exact ⟨rfl, rfl, rfl⟩
            case rest =>
            obtain ⟨rfl, rfl, hw⟩ := hcut
            rw [hw]; clear hw
            go_wp2_with fail
            obtain ⟨t, ht⟩ : ∃ t, t + 1 + k = n := ⟨n - 1 - k, by omega⟩
            have ht6 : t < 6 := by omega
            rw [show ((n : Int) - 1 - (k : Int)) = (t : Int) from by omega]
            have HT : Hid (t + 1 + k = n) := ht
            clear ht
            have hpe := ps_bound hF e (by omega)
            have hpe2 := ps_mono hF hea (show alp ≤ 258 from ha)
            have hpe3 := ps_mono hF ha (Nat.le_refl _)
            have hpe4 := ps_mono hF hfe (show e ≤ 258 by omega)
            clear HST HEE HG HGG HSH hCo hgf hga hpg hpgf
            go_loopg [89] alp (fun m j wr => ∃ j' : Nat, j' + m = alp ∧ j = .int .i64 j' ∧ SL w wr C Z (midRow C alp n sb k j'))
            case atStart =>
              refine ⟨0, by omega, rfl, HS.out.below, HS.out.res, HS.out.row.congr (fun p _ => ?_)⟩
              simp [lenRow, midRow, lenMid_zero]
            case round =>
              obtain ⟨j, hj, rfl, hSj⟩ := hrel
              by_cases hja : j < alp
              · have hja' : (j : Int) < alp := by omega
                have HJ : Hid (j + gk = alp) := hj
                have HSj : Hid (SL w wr C Z (midRow C alp n sb k j)) := hSj
                have hc := hSj.row.cell (i := t * 258 + j) (by omega)
                have hfz := hSj.row.frozen (t * 258 + j)
                have hj258 : (j : Int) < 258 := by omega
                have ht6' : (t : Int) < 6 := by omega
                clear hj hSj
                have hset : ∀ v, SL w (wr.setCell ⟨w.heap.size + 1, t * 258 + j, none⟩ v) C Z (fun p => if p = t * 258 + j then v else midRow C alp n sb k j p) := fun v =>
                  ⟨HSj.out.below.setCell (by show w.heap.size ≤ w.heap.size + 1; omega) _, (Below.heap_setCell _ _ _ _ (by show w.heap.size ≠ w.heap.size + 1; omega)).trans HSj.out.res, HSj.out.row.set _ _⟩
                have hout : ¬ (f ≤ j ∧ j < e) → ∀ p, (if p = t * 258 + j then Value.int .u8 15 else midRow C alp n sb k j p) = midRow C alp n sb k (j + 1) p := by
                  intro hn' p
                  unfold midRow
                  rw [lenMid_out C alp n sb k j (p / 258) (p % 258) (by rw [← HF.out, ← HEk.out]; exact hn')]
                  have ht := HT.out
                  by_cases hp : p = t * 258 + j
                  · rw [if_pos hp, if_pos (by omega)]
                  · rw [if_neg hp, if_neg (by omega)]
                have HSet : Hid (∀ v, SL w (wr.setCell ⟨w.heap.size + 1, t * 258 + j, none⟩ v) C Z (fun p => if p = t * 258 + j then v else midRow C alp n sb k j p)) := hset
                have HOut : Hid (¬ (f ≤ j ∧ j < e) → ∀ p, (if p = t * 258 + j then Value.int .u8 15 else midRow C alp n sb k j p) = midRow C alp n sb k (j + 1) p) := hout
                clear hset hout
                by_cases hjf : j < f
                · have hjf' : (j : Int) < f := by omega
                  go_wp2_with fail
                  have hj := HJ.out
                  go_roundg (gk - 1)
                  case rel =>
                    have h := HSet.out (.int .u8 15)
                    exact ⟨j + 1, by omega, by go_num, h.below, h.res, h.row.congr (fun p _ => HOut.out (by omega) p)⟩
                  case measure => omega
                · have hjf' : decide ((j : Int) < f) = false := decide_eq_false (by omega)
                  by_cases hje : j < e
                  · have hje' : ¬ (e : Int) ≤ j := by omega
                    go_wp2_with fail
                    have hj := HJ.out
                    go_roundg (gk - 1)
                    case rel =>
                      refine ⟨j + 1, by omega, by go_num, HSj.out.below, HSj.out.res, HSj.out.row.congr (fun p _ => ?_)⟩
                      unfold midRow
                      rw [lenMid_in C alp n sb k j _ _ (by rw [← HF.out, ← HEk.out]; omega)]
                    case measure => omega
                  · have hje' : (e : Int) ≤ j := by omega
                    go_wp2_with fail
                    have hj := HJ.out
                    go_roundg (gk - 1)
                    case rel =>
                      have h := HSet.out (.int .u8 15)
                      exact ⟨j + 1, by omega, by go_num, h.below, h.res, h.row.congr (fun p _ => HOut.out (by omega) p)⟩
                    case measure => omega
              · have hjj : j = alp := by omega
                have HSj : Hid (SL w wr C Z (midRow C alp n sb k j)) := hSj
                clear hj hSj
                go_wp2_with fail
                have hk := HK.out
                go_roundg (n - (k + 1))
                case rel =>
                  refine ⟨k + 1, by omega, by go_num, by rw [HEk.out], by rw [← HEk.out]; congr 1; omega, HSj.out.below, HSj.out.res, HSj.out.row.congr (fun p _ => ?_)⟩
                  unfold midRow lenRow
                  rw [hjj, lenMid_full C alp n sb k _ _ hlt]
                case measure => omega
        · have hkn : k = n := by omega
          subst hkn
          obtain ⟨c, hcG, hcs, hcv⟩ := hS.row
          have hres := hS.res
          have HB : Hid (Below w.heap.size w wo) := hS.below
          have hZs : Z.size = c.size := by rw [hcs]; exact HZs.out
          have hci : (Try.prog.info? 24).map (·.size) = some c.size := by rw [hcs]; exact (zero_of_info Try.zinfo24).2
          have hc1 : c.all (·.oneCell') = true := by
            rw [Array.all_eq_true_iff_forall_mem]
            intro v hv
            obtain ⟨i, hi, rfl⟩ := Array.mem_iff_getElem.1 hv
            have := hcv i (by omega)
            rw [Array.getElem?_eq_getElem hi] at this
            injection this with this
            rw [this]; rfl
          have HV : Hid (∀ i, i < 1548 → c[i]? = some (lenRow C alp k sb k i)) := hcv
          have HCS : Hid (c.size = 1548) := hcs
          clear hcv hcs hS hk
          go_wp2_with (first | (refine wpList_load_row rfl 24 (.tmp 9) rfl (w.heap.size + 1) rfl 24 c (0, 0) _ hcG Try.underlying24 rfl hci ?_) | (refine wpList_store_row rfl 24 (.tmp 8) (.tmp 110) rfl w.heap.size c rfl rfl 24 Z hres hci hZs hc1 ?_))
          refine bodyPost_ret (v := .agg c) (results_cell_row (P := Try.prog) (p := 8) (ty := 24) rfl _ _ w.heap.size 24 c (0, 0) _ rfl (setRow_heap wo w.heap.size Z c 24 (0, 0) hres) Try.underlying24 rfl hci) rfl ⟨c, rfl, HCS.out, HV.out, ?_⟩
          exact below_setRow HB.out (Nat.le_refl _) c
end Go.Proofs.Qxb6601576a
