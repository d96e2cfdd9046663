import Derived.Test.Qxb6601576aMove5
namespace Go.Proofs.Qxb6601576a
open Go.RowKit

set_option maxHeartbeats 2000000 in
set_option maxRecDepth 100000 in
theorem choose_walk (lo hi : Nat) (w : World) (fb sb : Nat → Nat) (sa : Nat → Option Addr) (sc n : Nat → Nat) (L : Nat → Nat → Nat → Nat) (G : Nat) (S : Nat → Nat → Nat) (bg : Nat) (ea ta : Option Addr) (nE cE nT cT : Nat) (E st : Nat → Nat) (T : Nat → Int) (fp : Option Nat) (A : Nat → Int)
    (h : In lo hi w fb sb sa sc n L G S bg ea ta nE cE nT cT E st T fp A) :
    Calls Try.prog 31 #[.agg (fv fb), .pointer (some ⟨bg, 0, none⟩), .pointer (fp.map fun b => ⟨b, 0, none⟩)] w (ChooseSays lo hi w sb n L G S E st fp A) := by
  have H : Hid (In lo hi w fb sb sa sc n L G S bg ea ta nE cE nT cT E st T fp A) := h
  have hlow : lo ≤ w.heap.size := Nat.le_trans h.lohi h.hiw
  obtain ⟨ZP, hZP⟩ : ∃ Z, Z = Array.replicate 774 (Value.int .u64 0) := ⟨_, rfl⟩
  have z71 := zero71
  have z70 := zero70
  have z43 := zero43
  rw [← hZP] at z71
  obtain ⟨W0, hW0⟩ : ∃ W0, W0 = (((w.alloc (.cells #[.pointer (some ⟨fb 0, 0, none⟩), .pointer (some ⟨fb 1, 0, none⟩)] 64)).alloc (.cells #[.int .i64 0, .int .i64 0] 43)).alloc (.cells ZP 71)).alloc (.cells #[.int .u64 0, .int .u64 0, .int .u64 0] 70) := ⟨_, rfl⟩
  have hP0 : Pk w.heap.size w.heap.size w W0 fb #[.int .i64 0, .int .i64 0] (fun _ => 0) (fun _ _ => 0) := by
    refine ⟨by rw [hW0]; exact (((Mid.refl w.heap.size w.heap.size w).alloc (Nat.le_refl _) _).alloc (Nat.le_refl _) _ |>.alloc (Nat.le_refl _) _).alloc (Nat.le_refl _) _, ?_, ?_, ?_, ?_⟩
    · rw [hW0, Below.heap_alloc _ _ _ (by simp; omega), Below.heap_alloc _ _ _ (by simp; omega), Below.heap_alloc _ _ _ (by simp)]; exact heap_alloc_new w _
    · rw [hW0, Below.heap_alloc _ _ _ (by simp), Below.heap_alloc _ _ _ (by simp)]
      have := heap_alloc_new (w.alloc (.cells #[.pointer (some ⟨fb 0, 0, none⟩), .pointer (some ⟨fb 1, 0, none⟩)] 64)) (.cells #[.int .i64 0, .int .i64 0] 43)
      rw [show (w.alloc (.cells #[.pointer (some ⟨fb 0, 0, none⟩), .pointer (some ⟨fb 1, 0, none⟩)] 64)).heap.size = w.heap.size + 1 by simp] at this
      exact this
    · have := World.rowIs_alloc ((w.alloc (.cells #[.pointer (some ⟨fb 0, 0, none⟩), .pointer (some ⟨fb 1, 0, none⟩)] 64)).alloc (.cells #[.int .i64 0, .int .i64 0] 43)) ZP 71 (fun _ => .int .u64 0) (fun i hi => by
        rw [hZP] at hi ⊢; simp at hi; simp [hi])
      rw [show ((w.alloc (.cells #[.pointer (some ⟨fb 0, 0, none⟩), .pointer (some ⟨fb 1, 0, none⟩)] 64)).alloc (.cells #[.int .i64 0, .int .i64 0] 43)).heap.size = w.heap.size + 2 by simp, show ZP.size = 774 by rw [hZP]; simp] at this
      rw [hW0]
      exact this.alloc _
    · have := World.rowIs_alloc (((w.alloc (.cells #[.pointer (some ⟨fb 0, 0, none⟩), .pointer (some ⟨fb 1, 0, none⟩)] 64)).alloc (.cells #[.int .i64 0, .int .i64 0] 43)).alloc (.cells ZP 71)) #[.int .u64 0, .int .u64 0, .int .u64 0] 70 (fun _ => .int .u64 0) (fun i hi => by
        simp at hi
        match i, hi with
        | 0, _ => rfl
        | 1, _ => rfl
        | 2, _ => rfl)
      rw [show (((w.alloc (.cells #[.pointer (some ⟨fb 0, 0, none⟩), .pointer (some ⟨fb 1, 0, none⟩)] 64)).alloc (.cells #[.int .i64 0, .int .i64 0] 43)).alloc (.cells ZP 71)).heap.size = w.heap.size + 3 by simp] at this
      rw [hW0]
      exact this
  have HP0 : Hid (Pk w.heap.size w.heap.size w W0 fb #[.int .i64 0, .int .i64 0] (fun _ => 0) (fun _ _ => 0)) := hP0
  have HW0 : Hid (W0 = (((w.alloc (.cells #[.pointer (some ⟨fb 0, 0, none⟩), .pointer (some ⟨fb 1, 0, none⟩)] 64)).alloc (.cells #[.int .i64 0, .int .i64 0] 43)).alloc (.cells ZP 71)).alloc (.cells #[.int .u64 0, .int .u64 0, .int .u64 0] 70)) := hW0
  have hidx : ∀ f, f < 2 → ∀ w, (Instr.index 64 (.agg #[.pointer (some ⟨fb 0, 0, none⟩), .pointer (some ⟨fb 1, 0, none⟩)]) (.int .i64 (f : Nat))).run Try.prog w = .ok (.pointer (some ⟨fb f, 0, none⟩)) w := fun f hf w => index_fv fb f hf w
  have HIdx : Hid (∀ f, f < 2 → ∀ w, (Instr.index 64 (.agg #[.pointer (some ⟨fb 0, 0, none⟩), .pointer (some ⟨fb 1, 0, none⟩)]) (.int .i64 (f : Nat))).run Try.prog w = .ok (.pointer (some ⟨fb f, 0, none⟩)) w) := hidx
  show Calls Try.prog 31 #[.agg #[.pointer (some ⟨fb 0, 0, none⟩), .pointer (some ⟨fb 1, 0, none⟩)], .pointer (some ⟨bg, 0, none⟩), .pointer (fp.map fun b => ⟨b, 0, none⟩)] w _
  clear hP0 hW0 hZP h hidx
  go_enter Try.func31, Try.ntmps31
  go_upto_block 0 with fail
  rw [← HW0.out]
  clear HW0
  go_cut [38] (fun _ w' => Pk w.heap.size w.heap.size w w' fb #[.int .i64 0, .int .i64 0] num (fun s k => lanes (fun ln => 8 * lenF n L ln s) 12 k))
  case first =>
    go_wp2_with fail
    go_loopg [38] 2 (fun g i wr => ∃ f : Nat, f + g = 2 ∧ i = .int .i64 f ∧ Pk w.heap.size w.heap.size w wr fb #[.int .i64 0, .int .i64 0] (fun k => lanes (fun ln => ln % 6) (6 * f) k) (fun s k => lanes (fun ln => 8 * lenF n L ln s) (6 * f) k))
    case atStart => exact ⟨0, by omega, rfl, HP0.out.congr (fun k _ => by simp [lanes_zero]) (fun s k _ _ => by simp [lanes_zero])⟩
    case round =>
      obtain ⟨f, hf, rfl, hP⟩ := hrel
      have HF : Hid (f + gk = 2) := hf
      have HP : Hid (Pk w.heap.size w.heap.size w wr fb #[.int .i64 0, .int .i64 0] (fun k => lanes (fun ln => ln % 6) (6 * f) k) (fun s k => lanes (fun ln => 8 * lenF n L ln s) (6 * f) k)) := hP
      by_cases hf2 : f < 2
      · have hf2' : (f : Int) < 2 := by omega
        have hix := HIdx.out f hf2
        obtain ⟨g0, hg0⟩ : ∃ g0, g0 = gk := ⟨_, rfl⟩
        have HG0 : Hid (g0 = gk) := hg0
        clear hf hP hg0
        go_wp2_with fail
        go_loopg [42] 6 (fun g i wr => ∃ t : Nat, t + g = 6 ∧ i = .int .i64 t ∧ Pk w.heap.size w.heap.size w wr fb #[.int .i64 0, .int .i64 0] (fun k => lanes (fun ln => ln % 6) (6 * f + t) k) (fun s k => lanes (fun ln => 8 * lenF n L ln s) (6 * f + t) k))
        case atStart => exact ⟨0, by omega, rfl, HP.out⟩
        case round =>
          obtain ⟨t, ht, rfl, hP⟩ := hrel
          have HT : Hid (t + gk = 6) := ht
          have HPt : Hid (Pk w.heap.size w.heap.size w wr fb #[.int .i64 0, .int .i64 0] (fun k => lanes (fun ln => ln % 6) (6 * f + t) k) (fun s k => lanes (fun ln => 8 * lenF n L ln s) (6 * f + t) k)) := hP
          by_cases ht6 : t < 6
          · have ht6' : (t : Int) < 6 := by omega
            obtain ⟨g1, hg1⟩ : ∃ g1, g1 = gk := ⟨_, rfl⟩
            have HG1 : Hid (g1 = gk) := hg1
            obtain ⟨ln, hln⟩ : ∃ ln, ln = 6 * f + t := ⟨_, rfl⟩
            rw [← hln] at hP
            have hl12 : ln < 12 := by omega
            have HLN : Hid (ln = 6 * f + t) := hln
            have hq4 : ln / 4 < 3 := by omega
            have hnc := hP.nums.cell (i := ln / 4) hq4
            have hnf := hP.nums.frozen
            have HPl : Hid (Pk w.heap.size w.heap.size w wr fb #[.int .i64 0, .int .i64 0] (fun k => lanes (fun ln => ln % 6) ln k) (fun s k => lanes (fun ln => 8 * lenF n L ln s) ln k)) := hP
            clear ht hP hg1 hln
            go_upto_region 10 with fail
            rw [show (f : Int) * 6 + (t : Int) = ((ln : Nat) : Int) from by have := HLN.out; omega]
            go_region
            go_wp2_with fail
            refine wp_world (fun W1 hW1 => ?_)
            have hP1 : Pk w.heap.size w.heap.size w W1 fb #[.int .i64 0, .int .i64 0] (fun k => lanes (fun ln => ln % 6) (ln + 1) k) (fun s k => lanes (fun ln => 8 * lenF n L ln s) ln k) := by
              have hlt : ∀ k, k < 3 → lanes (fun ln => ln % 6) ln k < 18446744073709551616 := fun k hk => lanes_lt _ _ _ (fun j _ => by show j % 6 < 65536; omega) hk
              have ht : t = ln % 6 := by have := HLN.out; omega
              have hv := or_shift (lanes (fun ln => ln % 6) ln (ln / 4)) (ln % 6) ln (hlt _ hq4) (by omega)
              rw [← ht] at hv
              rw [hW1, hv]
              refine ((HPl.out.setNum (Nat.le_refl _) (ln / 4) (lanes (fun ln => ln % 6) ln (ln / 4) ||| t * 2 ^ (16 * (ln % 4)))).drew).congr (fun k hk => ?_) (fun _ _ _ _ => rfl)
              have := pack_step (fun ln => ln % 6) ln (fun j _ => by show j % 6 < 65536; omega) hl12 k
              rw [← this, ht]
            have HP1 : Hid (Pk w.heap.size w.heap.size w W1 fb #[.int .i64 0, .int .i64 0] (fun k => lanes (fun ln => ln % 6) (ln + 1) k) (fun s k => lanes (fun ln => 8 * lenF n L ln s) ln k)) := hP1
            clear hW1 hP1 hnc hnf HPt HPl
            go_loopg [61] 258 (fun g i wr => ∃ s : Nat, s + g = 258 ∧ i = .int .i64 s ∧ Pk w.heap.size w.heap.size w wr fb #[.int .i64 0, .int .i64 0] (fun k => lanes (fun ln => ln % 6) (ln + 1) k) (fun s' k => lanes (fun ln => 8 * lenF n L ln s') (if s' < s then ln + 1 else ln) k))
            case atStart => exact ⟨0, by omega, rfl, HP1.out.congr (fun _ _ => rfl) (fun _ _ _ _ => by simp)⟩
            case round =>
              obtain ⟨s, hs, rfl, hP⟩ := hrel
              have HS : Hid (s + gk = 258) := hs
              have HPs : Hid (Pk w.heap.size w.heap.size w wr fb #[.int .i64 0, .int .i64 0] (fun k => lanes (fun ln => ln % 6) (ln + 1) k) (fun s' k => lanes (fun ln => 8 * lenF n L ln s') (if s' < s then ln + 1 else ln) k)) := hP
              by_cases hs258 : s < 258
              · have hs258' : (s : Int) < 258 := by omega
                have hpc := hP.pack.cell (i := s * 3 + ln / 4) (by omega)
                rw [show (s * 3 + ln / 4) / 3 = s by omega, show (s * 3 + ln / 4) % 3 = ln / 4 by omega, if_neg (by omega)] at hpc
                have hpf := hP.pack.frozen
                have hnf := hP.mid.cell (.inl (World.block_lt_of_cell? _ _ (H.out.fbn f hf2))) (H.out.fbn f hf2)
                have hMid : Hid (Mid w.heap.size w.heap.size w wr) := hP.mid
                clear hs hP
                by_cases htn : t < n f
                · have htn' : (t : Int) < (n f : Nat) := by omega
                  have hlen : Hid (lenF n L ln s = L f t s) := by
                    show _ = _
                    have := HLN.out
                    unfold lenF; rw [show ln % 6 = t by omega, show ln / 6 = f by omega, if_pos htn]
                  have hL1 := hMid.out.cell (.inl (World.block_lt_of_cell? _ _ (H.out.fbl f hf2 t s ht6 hs258))) (H.out.fbl f hf2 t s ht6 hs258)
                  rw [← Nat.add_assoc] at hL1
                  have hL100 := H.out.hL f t s hf2 htn hs258
                  go_wp2_with fail
                  go_region
                  go_wp2_with fail
                  have hs := HS.out
                  go_roundg (gk - 1)
                  case rel =>
                    refine ⟨s + 1, by omega, by go_num, ?_⟩
                    have hlt : ∀ k, k < 3 → lanes (fun ln => 8 * lenF n L ln s) ln k < 18446744073709551616 := fun k hk => lanes_lt _ _ _ (fun j hj => by have := lenF_le n L H.out.hL j s hj hs258; show 8 * _ < 65536; omega) hk
                    have hv := or_shift (lanes (fun ln => 8 * lenF n L ln s) ln (ln / 4)) (8 * lenF n L ln s) ln (hlt _ hq4) (by have := lenF_le n L H.out.hL ln s hl12 hs258; omega)
                    have hX : ((L f t s : Nat) * 8 : Int) = ((8 * lenF n L ln s : Nat) : Int) := by rw [hlen.out]; omega
                    rw [hX, hv]
                    refine ((HPs.out.setPack (Nat.le_refl _) s (ln / 4) (lanes (fun ln => 8 * lenF n L ln s) ln (ln / 4) ||| 8 * lenF n L ln s * 2 ^ (16 * (ln % 4))) hq4).drew).congr (fun _ _ => rfl) (fun s' k hs' hk => ?_)
                    by_cases hss : s' = s
                    · subst hss
                      have := pack_step (fun ln => 8 * lenF n L ln s') ln (fun j hj => by have := lenF_le n L H.out.hL j s' hj hs258; show 8 * _ < 65536; omega) hl12 k
                      rw [if_pos (show s' < s' + 1 by omega), ← this, if_neg (show ¬ s' < s' by omega)]
                      by_cases hkk : k = ln / 4
                      · rw [if_pos ⟨rfl, hkk⟩, if_pos hkk]
                      · rw [if_neg (fun h => hkk h.2), if_neg hkk]
                    · rw [if_neg (fun h => hss h.1)]
                      by_cases h1 : s' < s
                      · rw [if_pos h1, if_pos (show s' < s + 1 by omega)]
                      · rw [if_neg h1, if_neg (show ¬ s' < s + 1 by omega)]
                  case measure => omega
                · have htn' : ¬ (t : Int) < (n f : Nat) := by omega
                  have hlen : Hid (lenF n L ln s = 100) := by
                    show _ = _
                    have := HLN.out
                    unfold lenF; rw [show ln % 6 = t by omega, show ln / 6 = f by omega, if_neg htn]
                  go_wp2_with fail
                  go_region
                  go_wp2_with fail
                  have hs := HS.out
                  go_roundg (gk - 1)
                  case rel =>
                    refine ⟨s + 1, by omega, by go_num, ?_⟩
                    have hlt : ∀ k, k < 3 → lanes (fun ln => 8 * lenF n L ln s) ln k < 18446744073709551616 := fun k hk => lanes_lt _ _ _ (fun j hj => by have := lenF_le n L H.out.hL j s hj hs258; show 8 * _ < 65536; omega) hk
                    have hv := or_shift (lanes (fun ln => 8 * lenF n L ln s) ln (ln / 4)) (8 * lenF n L ln s) ln (hlt _ hq4) (by have := lenF_le n L H.out.hL ln s hl12 hs258; omega)
                    have hX : (800 : Int) = ((8 * lenF n L ln s : Nat) : Int) := by rw [hlen.out]; omega
                    rw [hX, hv]
                    refine ((HPs.out.setPack (Nat.le_refl _) s (ln / 4) (lanes (fun ln => 8 * lenF n L ln s) ln (ln / 4) ||| 8 * lenF n L ln s * 2 ^ (16 * (ln % 4))) hq4).drew).congr (fun _ _ => rfl) (fun s' k hs' hk => ?_)
                    by_cases hss : s' = s
                    · subst hss
                      have := pack_step (fun ln => 8 * lenF n L ln s') ln (fun j hj => by have := lenF_le n L H.out.hL j s' hj hs258; show 8 * _ < 65536; omega) hl12 k
                      rw [if_pos (show s' < s' + 1 by omega), ← this, if_neg (show ¬ s' < s' by omega)]
                      by_cases hkk : k = ln / 4
                      · rw [if_pos ⟨rfl, hkk⟩, if_pos hkk]
                      · rw [if_neg (fun h => hkk h.2), if_neg hkk]
                    · rw [if_neg (fun h => hss h.1)]
                      by_cases h1 : s' < s
                      · rw [if_pos h1, if_pos (show s' < s + 1 by omega)]
                      · rw [if_neg h1, if_neg (show ¬ s' < s + 1 by omega)]
                  case measure => omega
              · have hs2 : s = 258 := by omega
                have hs258' : ¬ (s : Int) < 258 := by omega
                clear hs hP
                go_wp2_with fail
                have ht := HT.out
                go_roundg (6 - (t + 1))
                case rel =>
                  have := HLN.out
                  refine ⟨t + 1, by omega, by go_num, HPs.out.congr (fun k _ => ?_) (fun s' k hs' _ => ?_)⟩
                  · rw [show 6 * f + (t + 1) = ln + 1 by omega]
                  · rw [if_pos (by omega), show 6 * f + (t + 1) = ln + 1 by omega]
                case measure => have := HG1.out; omega
          · have ht2 : t = 6 := by omega
            have ht6' : ¬ (t : Int) < 6 := by omega
            clear ht hP
            go_wp2_with fail
            have hf := HF.out
            go_roundg (2 - (f + 1))
            case rel =>
              refine ⟨f + 1, by omega, by go_num, HPt.out.congr (fun k _ => ?_) (fun s' k hs' _ => ?_)⟩
              · rw [show 6 * (f + 1) = 6 * f + t by omega]
              · rw [show 6 * (f + 1) = 6 * f + t by omega]
            case measure => have := HG0.out; omega
      · have hf3 : f = 2 := by omega
        have hf2' : ¬ (f : Int) < 2 := by omega
        clear hf hP
        go_wp2_with fail
        go_meet
        case rel =>
          rw [hf3] at HP
          exact HP.out
  case rest =>
    clear HP0 z71 z70
    obtain ⟨PKF, hPKF⟩ : ∃ PKF : Nat → Nat → Nat, PKF = fun s k => lanes (fun ln => 8 * lenF n L ln s) 12 k := ⟨_, rfl⟩
    rw [← hPKF] at hcut
    have HPKF : Hid (PKF = fun s k => lanes (fun ln => 8 * lenF n L ln s) 12 k) := hPKF
    clear hPKF
    rename World => wc
    have hc0 : wc.cell? ⟨w.heap.size, 0, none⟩ = some (.pointer (some ⟨fb 0, 0, none⟩)) := by rw [World.cell?]; simp only [hcut.fits]; rfl
    obtain ⟨bb, hbb⟩ : ∃ bb, bb = wc.heap.size := ⟨_, rfl⟩
    have hcs := hcut.mid.cell (.inl (World.block_lt_of_cell? _ _ (H.out.fbs 0 (by omega)))) (H.out.fbs 0 (by omega))
    obtain ⟨W1, hW1⟩ : ∃ W1, W1 = wc.alloc (.cells #[.int .i64 0, .int .i64 0] 43) := ⟨_, rfl⟩
    have hAp : Apart lo hi w sb bb G fp := by
      have h := H.out
      exact ⟨h.lohi, h.hiw, by rw [hbb]; exact hcut.nums.lt, fun f hf hG => ⟨(h.sel f hf hG).2.1, (h.sel f hf hG).2.2.1⟩, h.sne, fun bf hb => ⟨(h.fit bf hb).1, (h.fit bf hb).2.1, (h.fit bf hb).2.2.2.2.2⟩⟩
    have hG0 : Gs lo hi w W1 fb sb bb G fp PKF (fun f => bsm E st n L f 0) (slA E st n L S (fun _ => 0)) (fun p => wrap64 (A p + dl E st n L S p 0)) := by
      have h := H.out
      have hrow : W1.rowIs bb 43 2 (fun f => .int .i64 (0 : Nat)) := by
        rw [hW1, hbb]
        exact World.rowIs_alloc wc #[.int .i64 0, .int .i64 0] 43 (fun _ => .int .i64 0) (fun i hi => by
          simp at hi
          match i, hi with
          | 0, _ => rfl
          | 1, _ => rfl)
      refine ⟨by rw [hW1]; exact (hcut.weaken h.lohi h.hiw).alloc hlow _, hrow, fun f hf hG => ?_, fun bf hb => ?_⟩
      · have hs := h.sel f hf hG
        have hr : wc.rowIs (sb f) 5 G (fun i => .int .u8 (S f i : Nat)) := hs.2.2.2.of_block (hcut.mid.below.block _ (Nat.lt_of_lt_of_le hs.2.2.1 h.hiw))
        rw [hW1]; exact (hr.alloc _).congr (fun i _ => by simp [slA])
      · have hs := h.fit bf hb
        have hr : wc.rowIs bf 34 3096 (fun p => .int .i64 (A p)) := hs.2.2.1.of_block (hcut.mid.below.block _ (Nat.lt_of_lt_of_le hs.2.1 h.hiw))
        rw [hW1]; exact (hr.alloc _).congr (fun p hp => by simp [dl, tl, tal, hs.2.2.2.1 p hp])
    have HG0 : Hid (Gs lo hi w W1 fb sb bb G fp PKF (fun f => bsm E st n L f 0) (slA E st n L S (fun _ => 0)) (fun p => wrap64 (A p + dl E st n L S p 0))) := hG0
    have HAp : Hid (Apart lo hi w sb bb G fp) := hAp
    have HW1 : Hid (W1 = wc.alloc (.cells #[.int .i64 0, .int .i64 0] 43)) := hW1
    have HBB : Hid (bb = wc.heap.size) := hbb
    have hGG := H.out.grp.gG
    have hc0' : W1.cell? ⟨w.heap.size, 0, none⟩ = some (.pointer (some ⟨fb 0, 0, none⟩)) := by
      rw [World.cell?]; simp only [hG0.pk.fits]; rfl
    have hcs' := hG0.pk.mid.cell (.inr (H.out.fbh 0 (by omega))) (H.out.fbs 0 (by omega))
    clear hG0 hAp hW1 hbb hc0 hcs hcut
    go_upto_region 22 with fail
    rw [← HW1.out, ← HBB.out]
    clear HW1 HBB wc
    go_wp2_with fail
    go_loopg [103] G (fun g i wr => ∃ k : Nat, k + g = G ∧ i = .int .i64 k ∧ Gs lo hi w wr fb sb bb G fp PKF (fun f => bsm E st n L f k) (slA E st n L S (fun _ => k)) (fun p => wrap64 (A p + dl E st n L S p k)))
    case atStart => exact ⟨0, by omega, rfl, HG0.out⟩
    case round =>
      obtain ⟨k, hk, rfl, hGs⟩ := hrel
      clear hc0' hcs' HG0
      have HK : Hid (k + gk = G) := hk
      have HGs : Hid (Gs lo hi w wr fb sb bb G fp PKF (fun f => bsm E st n L f k) (slA E st n L S (fun _ => k)) (fun p => wrap64 (A p + dl E st n L S p k))) := hGs
      by_cases hkG : k < G
      · have hkG' : (k : Int) < G := by omega
        obtain ⟨g0, hg0⟩ : ∃ g0, g0 = gk := ⟨_, rfl⟩
        have HGK : Hid (g0 = gk) := hg0
        have hM := hGs.pk.mid
        have hof := of_walk lo wr bg nE cE nT cT G k ea ta E st T hkG (hM.cell (.inr H.out.bgh) H.out.bg0) (hM.cell (.inr H.out.bgh) H.out.bg1) (H.out.ent.below hM.below) (H.out.sta.below hM.below) H.out.grp H.out.hea H.out.hcE
        obtain ⟨m, hm⟩ : ∃ m, m = st (k + 1) - st k := ⟨_, rfl⟩
        have HMm : Hid (m = st (k + 1) - st k) := hm
        have hsym : ∀ j, j < m → E (st k + j) / 64 < 258 := fun j hj => H.out.grp.sym k hkG j (by rw [← hm]; exact hj)
        have hm16 : ∀ j, j < m → E (st k + j) < 65536 := fun j hj => H.out.grp.e16 _ (by have := H.out.grp.le (k + 1) (by omega) (by omega); omega)
        have htot : tot E (st k) m ≤ 81 := by rw [hm]; exact H.out.grp.hto k hkG
        have hmE : m ≤ 16384 := by have := H.out.grp.hnE; have := H.out.grp.le (k + 1) (by omega) (by omega); omega
        have hcb : ∀ j, j ≤ m → ∀ ln, ln < 12 → cst E (lenF n L ln) (st k) j < 8192 := fun j hj ln hl =>
          laneF_fits E n L (st k) j H.out.hL (fun i hi => hsym i (by omega)) (Nat.le_trans (tot_mono E (st k) j m hj) htot) ln hl
        unfold OfSays at hof
        rw [← hm] at hof
        clear hg0 hk hGs hM hm
        go_wp2_with fail
        refine hof.mono ?_
        rintro e w1 ⟨hD, a', c', rfl, hCB⟩
        have hG1 := HGs.out.drawn hD
        have HG1 : Hid (Gs lo hi w w1 fb sb bb G fp PKF (fun f => bsm E st n L f k) (slA E st n L S (fun _ => k)) (fun p => wrap64 (A p + dl E st n L S p k))) := hG1
        have hCB1 : CB lo w1 a' m (fun j => .int .u16 (E (st k + j) : Nat)) := hCB.below ⟨hD.below.os, hD.below.tape, hD.below.output, hD.below.size, fun b _ => by obtain ⟨q, rfl⟩ := hD; rfl⟩
        have hpr := hG1.pk.pack
        have hnr := hG1.pk.nums
        clear hG1 hCB hD hof HGs
        go_wp2_with fail
        go_loopg [17, 18, 19, 111] m (fun g c0 c1 c2 i wr => ∃ j : Nat, j + g = m ∧ i = .int .i64 j ∧ c0 = .int .u64 (word E (lenF n L) (st k) j 0 : Nat) ∧ c1 = .int .u64 (word E (lenF n L) (st k) j 1 : Nat) ∧ c2 = .int .u64 (word E (lenF n L) (st k) j 2 : Nat) ∧ wr = w1)
        case atStart => exact ⟨0, by omega, rfl, by rw [word_zero]; rfl, by rw [word_zero]; rfl, by rw [word_zero]; rfl, rfl⟩
        case round =>
          obtain ⟨j, hj, rfl, rfl, rfl, rfl, hwr⟩ := hrel
          rw [hwr]; clear hwr
          have HJ : Hid (j + gk = m) := hj
          by_cases hjm : j < m
          · have hjm' : (j : Int) < m := by omega
            obtain ⟨eb, eo, rfl, heb, hc⟩ := hCB1.at hjm
            have hx16 := hm16 j hjm
            have hsj := hsym j hjm
            have hand := u16_and63 (E (st k + j)) hx16
            have hp0 := hpr.cell (i := E (st k + j) / 64 * 3) (by omega)
            have hp1 := hpr.cell (i := E (st k + j) / 64 * 3 + 1) (by omega)
            have hp2 := hpr.cell (i := E (st k + j) / 64 * 3 + 2) (by omega)
            rw [show E (st k + j) / 64 * 3 / 3 = E (st k + j) / 64 by omega, show E (st k + j) / 64 * 3 % 3 = 0 by omega] at hp0
            rw [show (E (st k + j) / 64 * 3 + 1) / 3 = E (st k + j) / 64 by omega, show (E (st k + j) / 64 * 3 + 1) % 3 = 1 by omega] at hp1
            rw [show (E (st k + j) / 64 * 3 + 2) / 3 = E (st k + j) / 64 by omega, show (E (st k + j) / 64 * 3 + 2) % 3 = 2 by omega] at hp2
            clear hj
            have hwl : ∀ i, i < 3 → word E (lenF n L) (st k) (j + 1) i < 18446744073709551616 := fun i hi => word_lt _ _ _ _ _ (fun ln hl => hcb (j + 1) (by omega) ln hl) hi
            have HC : Hid (∀ i, i < 3 → IntKind.u64.wrap ((word E (lenF n L) (st k) j i : Nat) + IntKind.u64.wrap ((PKF (E (st k + j) / 64) i : Nat) * (((E (st k + j) : Nat) : Int) % 64))) = ((word E (lenF n L) (st k) (j + 1) i : Nat) : Int)) := fun i hi => by
              rw [HPKF.out]; exact cost_wrap E (lenF n L) (st k) j i hi (hwl i hi)
            clear hwl
            go_wp2_with fail
            have hj := HJ.out
            go_roundg (gk - 1)
            case rel => exact ⟨j + 1, by omega, by go_num, by rw [HC.out 0 (by omega)], by rw [HC.out 1 (by omega)], by rw [HC.out 2 (by omega)], rfl⟩
            case measure => omega
          · have hjm2 : j = m := by omega
            subst hjm2
            have hjm' : ¬ (j : Int) < j := by omega
            have hcm := hcb j (Nat.le_refl _)
            obtain ⟨X0, hX0⟩ : ∃ X, X = wordN E (lenF n L) (st k) j 0 := ⟨_, rfl⟩
            obtain ⟨X1, hX1⟩ : ∃ X, X = wordN E (lenF n L) (st k) j 1 := ⟨_, rfl⟩
            obtain ⟨X2, hX2⟩ : ∃ X, X = wordN E (lenF n L) (st k) j 2 := ⟨_, rfl⟩
            have ho0 := or_word E (lenF n L) (st k) j 0 hcm (by omega)
            have ho1 := or_word E (lenF n L) (st k) j 1 hcm (by omega)
            have ho2 := or_word E (lenF n L) (st k) j 2 hcm (by omega)
            have l0 := wordN_lt E (lenF n L) (st k) j 0 hcm (by omega)
            have l1 := wordN_lt E (lenF n L) (st k) j 1 hcm (by omega)
            have l2 := wordN_lt E (lenF n L) (st k) j 2 hcm (by omega)
            have q0 := m6_zero E (lenF n L) (st k) j hcm X0 X1 hX0 hX1
            have q1 := m6_one E (lenF n L) (st k) j hcm X1 X2 hX1 hX2
            rw [← hX0] at ho0 l0
            rw [← hX1] at ho1 l1
            rw [← hX2] at ho2 l2
            have a00 := and_lane X0 l0 1 (.inl rfl)
            have a01 := and_lane X0 l0 65536 (.inr (.inl rfl))
            have a02 := and_lane X0 l0 4294967296 (.inr (.inr rfl))
            have a10 := and_lane X1 l1 1 (.inl rfl)
            have a11 := and_lane X1 l1 65536 (.inr (.inl rfl))
            have a12 := and_lane X1 l1 4294967296 (.inr (.inr rfl))
            have a20 := and_lane X2 l2 1 (.inl rfl)
            have a21 := and_lane X2 l2 65536 (.inr (.inl rfl))
            have a22 := and_lane X2 l2 4294967296 (.inr (.inr rfl))
            rw [Int.ediv_one] at a00 a10 a20
            have hn0 := hnr.cell (i := 0) (by omega)
            have hn1 := hnr.cell (i := 1) (by omega)
            have hn2 := hnr.cell (i := 2) (by omega)
            have hmn := run_min6
            obtain ⟨le, hle⟩ : ∃ le : Nat → Nat, le = least E (lenF n L) (st k) j := ⟨_, rfl⟩
            rw [← hle] at q0 q1
            have HLE : Hid (le = least E (lenF n L) (st k) j) := hle
            have hle16 : ∀ f, f < 2 → le f < 65536 := fun f hf => by
              rw [hle]
              have h1 := mn_le (key (fun t => cst E (lenF n L (6 * f + t)) (st k) j)) 5 0 (by omega)
              have h2 := hcm (6 * f + 0) (by omega)
              rw [show key (fun t => cst E (lenF n L (6 * f + t)) (st k) j) 0 = 8 * cst E (lenF n L (6 * f + 0)) (st k) j + 0 from rfl] at h1
              unfold least
              omega
            clear hle hX0 hX1 hX2 hj HJ hcb hpr hnr hcm
            go_wp2_with fail
            go_quiet (fail)
            go_upto_region 36 with fail
            refine wp_world (fun W2 hW2 => ?_)
            have hG2 := HG1.out.drawn ⟨_, hW2⟩
            have HG2 : Hid (Gs lo hi w W2 fb sb bb G fp PKF (fun f => bsm E st n L f k) (slA E st n L S (fun _ => k)) (fun p => wrap64 (A p + dl E st n L S p k))) := hG2
            have HD2 : Hid (Drawn w1 W2) := ⟨_, hW2⟩
            clear hW2 hG2 HG1
            go_upto_region 37 with fail
            refine wp_world (fun W3 hW3 => ?_)
            obtain ⟨bl, hbl⟩ : ∃ bl, bl = W2.heap.size := ⟨_, rfl⟩
            rw [← hbl]
            have hlr : W3.rowIs bl 73 2 (fun f => .int .u64 (le f : Nat)) := by
              rw [hW3, hbl]
              exact World.rowIs_alloc W2 #[.int .u64 (le 0 : Nat), .int .u64 (le 1 : Nat)] 73 (fun f => .int .u64 (le f : Nat)) (fun i hi => by
                simp at hi
                match i, hi with
                | 0, _ => rfl
                | 1, _ => rfl)
            have hG3 : Gs lo hi w W3 fb sb bb G fp PKF (fun f => bsm E st n L f k) (slA E st n L S (fun _ => k)) (fun p => wrap64 (A p + dl E st n L S p k)) := by
              rw [hW3]; exact HG2.out.alloc HAp.out _
            have hbl2 : bb < bl := by rw [hbl]; exact HG2.out.bits.lt
            have hCB3 : CB lo W3 a' j (fun i => .int .u16 (E (st k + i) : Nat)) := by
              refine hCB1.below (w' := W3) ?_
              have hlo : lo ≤ W2.heap.size := by have := HAp.out.lohi; have := HAp.out.hiw; have := HAp.out.bb; omega
              rw [hW3]
              have hD2 := HD2.out
              refine Below.alloc ⟨hD2.below.os, hD2.below.tape, hD2.below.output, hD2.below.size, fun b _ => by obtain ⟨q, rfl⟩ := hD2; rfl⟩ hlo _
            have HG3 : Hid (Gs lo hi w W3 fb sb bb G fp PKF (fun f => bsm E st n L f k) (slA E st n L S (fun _ => k)) (fun p => wrap64 (A p + dl E st n L S p k))) := hG3
            have HLR : Hid (W3.rowIs bl 73 2 (fun f => .int .u64 (le f : Nat))) := hlr
            have hf0 : W3.cell? ⟨w.heap.size, 0, none⟩ = some (.pointer (some ⟨fb 0, 0, none⟩)) := by rw [World.cell?]; simp only [hG3.pk.fits]; rfl
            have hf1 : W3.cell? ⟨w.heap.size, 1, none⟩ = some (.pointer (some ⟨fb 1, 0, none⟩)) := by rw [World.cell?]; simp only [hG3.pk.fits]; rfl
            clear hW3 hbl hG3 hlr HG2 HD2 hCB1 ho0 ho1 ho2 l0 l1 l2 q0 q1 a00 a01 a02 a10 a11 a12 a20 a21 a22 hn0 hn1 hn2 hmn
            go_wp2_with fail
            go_loopg [191] 2 (fun g i wr => ∃ f : Nat, f + g = 2 ∧ i = .int .i64 f ∧ CB lo wr a' j (fun i => .int .u16 (E (st k + i) : Nat)) ∧ wr.rowIs bl 73 2 (fun f => .int .u64 (le f : Nat)) ∧ Gs lo hi w wr fb sb bb G fp PKF (fun f' => bsm E st n L f' (if f' < f then k + 1 else k)) (slA E st n L S (fun f' => if f' < f then k + 1 else k)) (fun p => wrap64 (A p + dl E st n L S p (if p / 1548 < f then k + 1 else k))))
            case atStart => exact ⟨0, by omega, rfl, hCB3, HLR.out, HG3.out.congr (fun f _ => by simp) (fun f i _ _ => by simp [slA]) (fun bf _ p _ => by simp)⟩
            case round =>
              obtain ⟨f, hf, rfl, hCBf, hlf, hGf⟩ := hrel
              clear hCB3 HLR HG3 hf0 hf1
              have HF : Hid (f + gk = 2) := hf
              have HCBf : Hid (CB lo wr a' j (fun i => .int .u16 (E (st k + i) : Nat))) := hCBf
              have HLF : Hid (wr.rowIs bl 73 2 (fun f => .int .u64 (le f : Nat))) := hlf
              have HGf : Hid (Gs lo hi w wr fb sb bb G fp PKF (fun f' => bsm E st n L f' (if f' < f then k + 1 else k)) (slA E st n L S (fun f' => if f' < f then k + 1 else k)) (fun p => wrap64 (A p + dl E st n L S p (if p / 1548 < f then k + 1 else k)))) := hGf
              by_cases hf2 : f < 2
              · have hf2' : (f : Int) < 2 := by omega
                have hix := HIdx.out f hf2
                have hG0 : 0 < G := by omega
                have hlc := hlf.cell (i := f) hf2
                have hlef := hle16 f hf2
                have hfs := hGf.pk.mid.cell (.inr (H.out.fbh f hf2)) (H.out.fbs f hf2)
                rw [(H.out.sel f hf2 hG0).1] at hfs
                have hsr := (hGf.sel f hf2 hG0)
                have hsc := hsr.cell (i := k) hkG
                rw [slA, if_neg (by rw [if_neg (by omega)]; omega)] at hsc
                have h7 := u64_and7 (le f) (by omega)
                obtain ⟨g1, hg1⟩ : ∃ g1, g1 = gk := ⟨_, rfl⟩
                have HG1 : Hid (g1 = gk) := hg1
                obtain ⟨nwf, hnwf⟩ : ∃ x, x = le f % 8 := ⟨_, rfl⟩
                rw [← hnwf] at h7
                have hnw6 : nwf < 8 := by omega
                have HNW : Hid (nwf = nw E st n L f k) := by show _ = _; rw [hnwf, HLE.out, nw, ← HMm.out]
                have HNL : Hid (nwf = le f % 8) := hnwf
                clear hf hCBf hlf hGf hg1 hnwf hsr
                go_wp2_with fail
                go_quiet (fail)
                go_upto_region 41 with fail
                refine wp_world (fun W4 hW4 => ?_)
                have hD4 : Drawn wr W4 := ⟨_, hW4⟩
                have hG4 := HGf.out.drawn hD4
                have hl4 : W4.rowIs bl 73 2 (fun f => .int .u64 (le f : Nat)) := by obtain ⟨q, rfl⟩ := hD4; exact HLF.out
                have hC4 : CB lo W4 a' j (fun i => .int .u16 (E (st k + i) : Nat)) := HCBf.out.below ⟨hD4.below.os, hD4.below.tape, hD4.below.output, hD4.below.size, fun b _ => by obtain ⟨q, rfl⟩ := hD4; rfl⟩
                clear hW4 hD4 HGf HLF HCBf hlc hfs hsc
                have hfs := hG4.pk.mid.cell (.inr (H.out.fbh f hf2)) (H.out.fbs f hf2)
                rw [(H.out.sel f hf2 hG0).1] at hfs
                have hsr := (hG4.sel f hf2 hG0)
                have hsc := hsr.cell (i := k) hkG
                have hsf := hsr.frozen
                have HG4 : Hid (Gs lo hi w W4 fb sb bb G fp PKF (fun f' => bsm E st n L f' (if f' < f then k + 1 else k)) (slA E st n L S (fun f' => if f' < f then k + 1 else k)) (fun p => wrap64 (A p + dl E st n L S p (if p / 1548 < f then k + 1 else k)))) := hG4
                have HL4 : Hid (W4.rowIs bl 73 2 (fun f => .int .u64 (le f : Nat))) := hl4
                have HC4 : Hid (CB lo W4 a' j (fun i => .int .u16 (E (st k + i) : Nat))) := hC4
                clear hG4 hl4 hC4 hsr
                go_upto_region 42 with fail
                refine wp_world (fun W5 hW5 => ?_)
                have hG5 : Gs lo hi w W5 fb sb bb G fp PKF (fun f' => bsm E st n L f' (if f' < f then k + 1 else k)) (slA E st n L S (fun f' => if f' < f + 1 then k + 1 else k)) (fun p => wrap64 (A p + dl E st n L S p (if p / 1548 < f then k + 1 else k))) := by
                  rw [hW5]
                  refine (HG4.out.setSel HAp.out f k nwf hf2 hG0).congr (fun _ _ => rfl) (fun f' i _ _ => ?_) (fun _ _ _ _ => rfl)
                  exact slA_set E st n L S f k nwf HNW.out f' i
                have hsblt : sb f < hi ∧ lo ≤ sb f := ⟨(HAp.out.sel f hf2 hG0).2, (HAp.out.sel f hf2 hG0).1⟩
                have hl5 : W5.rowIs bl 73 2 (fun f => .int .u64 (le f : Nat)) := by
                  rw [hW5]; exact HL4.out.setOther (by show bl ≠ sb f; have := HAp.out.hiw; have := HAp.out.bb; omega) _
                have hC5 : CB lo W5 a' j (fun i => .int .u16 (E (st k + i) : Nat)) := by
                  rw [hW5]; exact HC4.out.below ((Below.refl _ _).setCell hsblt.2 _)
                have hbc := hG5.bits.cell (i := f) hf2
                rw [if_neg (show ¬ f < f by omega)] at hbc
                have hbf := hG5.bits.frozen
                have hlc := hl5.cell (i := f) hf2
                have hbs := bsm_le E st n L f k (fun g hg => by
                  have := mn_le (key (fun t => cst E (lenF n L (6 * f + t)) (st g) (st (g + 1) - st g))) 5 0 (by omega)
                  rw [show key (fun t => cst E (lenF n L (6 * f + t)) (st g) (st (g + 1) - st g)) 0 = 8 * cst E (lenF n L (6 * f + 0)) (st g) (st (g + 1) - st g) + 0 from rfl] at this
                  have h2 := laneF_fits E n L (st g) (st (g + 1) - st g) H.out.hL (H.out.grp.sym g (by omega)) (H.out.grp.hto g (by omega)) (6 * f + 0) (by omega)
                  unfold least
                  omega)
                have HG5 : Hid (Gs lo hi w W5 fb sb bb G fp PKF (fun f' => bsm E st n L f' (if f' < f then k + 1 else k)) (slA E st n L S (fun f' => if f' < f + 1 then k + 1 else k)) (fun p => wrap64 (A p + dl E st n L S p (if p / 1548 < f then k + 1 else k)))) := hG5
                have HL5 : Hid (W5.rowIs bl 73 2 (fun f => .int .u64 (le f : Nat))) := hl5
                have HC5 : Hid (CB lo W5 a' j (fun i => .int .u16 (E (st k + i) : Nat))) := hC5
                clear hW5 hG5 hl5 hC5 hfs hsc hsf HG4 HL4 HC4
                go_region
                go_upto_region 43 with fail
                refine wp_world (fun W6 hW6 => ?_)
                have hbe : ((bsm E st n L f k : Nat) : Int) + ((le f : Nat) : Int) / 8 = ((bsm E st n L f (k + 1) : Nat) : Int) := by
                  rw [bsm, ← HMm.out, ← HLE.out]; omega
                rw [hbe] at hW6
                have hG6 : Gs lo hi w W6 fb sb bb G fp PKF (fun f' => bsm E st n L f' (if f' < f + 1 then k + 1 else k)) (slA E st n L S (fun f' => if f' < f + 1 then k + 1 else k)) (fun p => wrap64 (A p + dl E st n L S p (if p / 1548 < f then k + 1 else k))) := by
                  rw [hW6]
                  refine ((HG5.out.setBits HAp.out f (bsm E st n L f (k + 1))).drew).congr (fun f' _ => ?_) (fun _ _ _ _ => rfl) (fun _ _ _ _ => rfl)
                  by_cases e1 : f' = f
                  · rw [if_pos e1, e1, if_pos (by omega)]
                  · rw [if_neg e1]
                    by_cases e2 : f' < f
                    · rw [if_pos e2, if_pos (by omega)]
                    · rw [if_neg e2, if_neg (by omega)]
                have hl6 : W6.rowIs bl 73 2 (fun f => .int .u64 (le f : Nat)) := by
                  rw [hW6]; exact HL5.out.setOther (by show bl ≠ bb; omega) _
                have hC6 : CB lo W6 a' j (fun i => .int .u16 (E (st k + i) : Nat)) := by
                  have hlo : lo ≤ bb := by have := HAp.out.lohi; have := HAp.out.hiw; have := HAp.out.bb; omega
                  have hb : Below lo W5 (W5.setCell ⟨bb, f, none⟩ (.int .i64 ((bsm E st n L f (k + 1) : Nat) : Int))) := (Below.refl _ _).setCell hlo _
                  rw [hW6]; exact HC5.out.below ⟨hb.os, hb.tape, hb.output, hb.size, hb.block⟩
                have HG6 : Hid (Gs lo hi w W6 fb sb bb G fp PKF (fun f' => bsm E st n L f' (if f' < f + 1 then k + 1 else k)) (slA E st n L S (fun f' => if f' < f + 1 then k + 1 else k)) (fun p => wrap64 (A p + dl E st n L S p (if p / 1548 < f then k + 1 else k)))) := hG6
                have HL6 : Hid (W6.rowIs bl 73 2 (fun f => .int .u64 (le f : Nat))) := hl6
                have HC6 : Hid (CB lo W6 a' j (fun i => .int .u16 (E (st k + i) : Nat))) := hC6
                clear hW6 hG6 hl6 hC6 hbc hbf hlc hbs HG5 HL5 HC5 hbe
                cases fp with
                | none =>
                  go_wp2_with fail
                  have hf := HF.out
                  go_roundg (2 - (f + 1))
                  case rel =>
                    refine ⟨f + 1, by omega, by go_num, HC6.out, HL6.out, HG6.out.congr (fun _ _ => rfl) (fun _ _ _ _ => rfl) (fun bf hb p hp => ?_)⟩
                    cases hb
                  case measure => have := HG1.out; omega
                | some bf =>
                  by_cases hne : nwf = S f k
                  · have HEQ : Hid (nwf = S f k) := hne
                    have hne' : ((nwf : Int) != (S f k : Nat)) = false := by simp [hne]
                    have hne2 : (nwf != S f k) = false := by simp [hne]
                    clear hne
                    go_wp2_with fail
                    have hf := HF.out
                    go_roundg (2 - (f + 1))
                    case rel =>
                      refine ⟨f + 1, by omega, by go_num, HC6.out, HL6.out, HG6.out.congr (fun _ _ => rfl) (fun _ _ _ _ => rfl) (fun bf hb p hp => ?_)⟩
                      by_cases e1 : p / 1548 = f
                      · rw [if_neg (by omega), if_pos (by omega), dl_step E st n L S p k hp, mv_same _ _ _ _ _ _ _ _ _ (by rw [e1, ← HNW.out]; exact HEQ.out), Int.add_zero]
                      · by_cases e2 : p / 1548 < f
                        · rw [if_pos e2, if_pos (by omega)]
                        · rw [if_neg e2, if_neg (by omega)]
                    case measure => have := HG1.out; omega
                  · have hne' : ((nwf : Int) != (S f k : Nat)) = true := by simp; omega
                    have hne2 : (nwf != S f k) = true := by simp; omega
                    have hold6 := (H.out.fit bf rfl).2.2.2.2.1 f k hf2 hkG
                    have hnw6' : nwf < 6 := by rw [HNW.out]; exact nw_lt E st n L f k
                    go_wp2_with fail
                    go_loopg [233] j (fun g i wr => ∃ i' : Nat, i' + g = j ∧ i = .int .i64 i' ∧ CB lo wr a' j (fun i => .int .u16 (E (st k + i) : Nat)) ∧ wr.rowIs bl 73 2 (fun f => .int .u64 (le f : Nat)) ∧ Gs lo hi w wr fb sb bb G (some bf) PKF (fun f' => bsm E st n L f' (if f' < f + 1 then k + 1 else k)) (slA E st n L S (fun f' => if f' < f + 1 then k + 1 else k)) (fun p => wrap64 (A p + dl E st n L S p (if p / 1548 < f then k + 1 else k) + mv E st n L S f k i' p)))
                    case atStart => exact ⟨0, by omega, rfl, HC6.out, HL6.out, HG6.out.congr (fun _ _ => rfl) (fun _ _ _ _ => rfl) (fun _ _ p _ => by rw [mv_zero, Int.add_zero])⟩
                    case round =>
                      obtain ⟨i, hii, rfl, hCi, hLi, hGi⟩ := hrel
                      clear HC6 HL6 HG6
                      have HI : Hid (i + gk = j) := hii
                      have HCi : Hid (CB lo wr a' j (fun i => .int .u16 (E (st k + i) : Nat))) := hCi
                      have HLi : Hid (wr.rowIs bl 73 2 (fun f => .int .u64 (le f : Nat))) := hLi
                      have HGi : Hid (Gs lo hi w wr fb sb bb G (some bf) PKF (fun f' => bsm E st n L f' (if f' < f + 1 then k + 1 else k)) (slA E st n L S (fun f' => if f' < f + 1 then k + 1 else k)) (fun p => wrap64 (A p + dl E st n L S p (if p / 1548 < f then k + 1 else k) + mv E st n L S f k i p))) := hGi
                      by_cases hij : i < j
                      · have hij' : (i : Int) < j := by omega
                        obtain ⟨eb, eo, rfl, heb, hc⟩ := hCi.at hij
                        have hx16 := hm16 i hij
                        have hsi := hsym i hij
                        have hand := u16_and63 (E (st k + i)) hx16
                        have hfr := hGi.fit bf rfl
                        have hfz := hfr.frozen
                        have hfc := hfr.cell (i := f * 1548 + S f k * 258 + E (st k + i) / 64) (by omega)
                        clear hii hCi hLi hGi hfr
                        go_upto_region 48 with fail
                        go_region
                        go_upto_region 49 with fail
                        refine wp_world (fun W7 hW7 => ?_)
                        obtain ⟨q, hq⟩ : ∃ q, q = f * 1548 + S f k * 258 + E (st k + i) / 64 := ⟨_, rfl⟩
                        rw [← hq] at hW7
                        obtain ⟨v7, hv7⟩ : ∃ v : Int, v = wrap64 (wrap64 (A q + dl E st n L S q k + mv E st n L S f k i q) - ((E (st k + i) : Nat) : Int) % 64) := ⟨_, rfl⟩
                        rw [← hv7] at hW7
                        have hG7 : Gs lo hi w W7 fb sb bb G (some bf) PKF (fun f' => bsm E st n L f' (if f' < f + 1 then k + 1 else k)) (slA E st n L S (fun f' => if f' < f + 1 then k + 1 else k)) (fun p => if p = q then v7 else wrap64 (A p + dl E st n L S p (if p / 1548 < f then k + 1 else k) + mv E st n L S f k i p)) := by
                          rw [hW7]; exact (HGi.out.setFit HAp.out bf q v7 rfl).drew
                        have hbfr := HAp.out.fit bf rfl
                        have hl7 : W7.rowIs bl 73 2 (fun f => .int .u64 (le f : Nat)) := by
                          rw [hW7]; exact HLi.out.setOther (by show bl ≠ bf; have := HAp.out.hiw; have := HAp.out.bb; omega) _
                        have hC7 : CB lo W7 (some ⟨eb, eo, none⟩) j (fun i => .int .u16 (E (st k + i) : Nat)) := by
                          have hb : Below lo wr (wr.setCell ⟨bf, q, none⟩ (.int .i64 v7)) := (Below.refl _ _).setCell hbfr.1 _
                          rw [hW7]; exact HCi.out.below ⟨hb.os, hb.tape, hb.output, hb.size, hb.block⟩
                        have hq7 : f * 1548 + nwf * 258 + E (st k + i) / 64 ≠ q := by omega
                        have hfr7 := hG7.fit bf rfl
                        have hfz7 := hfr7.frozen
                        have hfc7 := hfr7.cell (i := f * 1548 + nwf * 258 + E (st k + i) / 64) (by omega)
                        rw [if_neg hq7, if_neg (show ¬ (f * 1548 + nwf * 258 + E (st k + i) / 64) / 1548 < f by omega)] at hfc7
                        have HG7 : Hid (Gs lo hi w W7 fb sb bb G (some bf) PKF (fun f' => bsm E st n L f' (if f' < f + 1 then k + 1 else k)) (slA E st n L S (fun f' => if f' < f + 1 then k + 1 else k)) (fun p => if p = q then v7 else wrap64 (A p + dl E st n L S p (if p / 1548 < f then k + 1 else k) + mv E st n L S f k i p))) := hG7
                        have HL7 : Hid (W7.rowIs bl 73 2 (fun f => .int .u64 (le f : Nat))) := hl7
                        have HC7 : Hid (CB lo W7 (some ⟨eb, eo, none⟩) j (fun i => .int .u16 (E (st k + i) : Nat))) := hC7
                        have HQ : Hid (q = f * 1548 + S f k * 258 + E (st k + i) / 64) := hq
                        have HV7 : Hid (v7 = wrap64 (wrap64 (A q + dl E st n L S q k + mv E st n L S f k i q) - ((E (st k + i) : Nat) : Int) % 64)) := hv7
                        clear hW7 hG7 hl7 hC7 hfr7 hq hv7 hc hfz hfc HGi HLi HCi hbfr
                        go_region
                        go_upto_region 50 with fail
                        refine wp_world (fun W8 hW8 => ?_)
                        obtain ⟨q8, hq8⟩ : ∃ q, q = f * 1548 + nwf * 258 + E (st k + i) / 64 := ⟨_, rfl⟩
                        rw [← hq8] at hW8 hq7
                        obtain ⟨v8, hv8⟩ : ∃ v : Int, v = wrap64 (wrap64 (A q8 + dl E st n L S q8 k + mv E st n L S f k i q8) + ((E (st k + i) : Nat) : Int) % 64) := ⟨_, rfl⟩
                        rw [← hv8] at hW8
                        have hbfr := HAp.out.fit bf rfl
                        have hG8 : Gs lo hi w W8 fb sb bb G (some bf) PKF (fun f' => bsm E st n L f' (if f' < f + 1 then k + 1 else k)) (slA E st n L S (fun f' => if f' < f + 1 then k + 1 else k)) (fun p => wrap64 (A p + dl E st n L S p (if p / 1548 < f then k + 1 else k) + mv E st n L S f k (i + 1) p)) := by
                          rw [hW8]
                          refine ((HG7.out.setFit HAp.out bf q8 v8 rfl).drew).congr (fun _ _ => rfl) (fun _ _ _ _ => rfl) (fun _ _ p hp => ?_)
                          have hT : ((E (st k + i) : Nat) : Int) % 64 = ((E (st k + i) % 64 : Nat) : Int) := by omega
                          rw [mv_step E st n L S f k i p hold6 (nw_lt E st n L f k) hsi, ← HNW.out, ← HQ.out, ← hq8]
                          by_cases e8 : p = q8
                          · rw [if_pos e8, if_pos e8, e8, hv8, wrap64_add, hT, if_neg (show ¬ q8 / 1548 < f by omega), if_neg hq7]
                            congr 1; omega
                          · rw [if_neg e8, if_neg e8]
                            by_cases e7 : p = q
                            · have := HQ.out
                              rw [if_pos e7, if_pos e7, HV7.out, wrap64_sub, hT, e7, if_neg (show ¬ q / 1548 < f by omega)]
                              congr 1; omega
                            · rw [if_neg e7, if_neg e7]
                              congr 1; omega
                        have hl8 : W8.rowIs bl 73 2 (fun f => .int .u64 (le f : Nat)) := by
                          rw [hW8]; exact HL7.out.setOther (by show bl ≠ bf; have := HAp.out.hiw; have := HAp.out.bb; omega) _
                        have hC8 : CB lo W8 (some ⟨eb, eo, none⟩) j (fun i => .int .u16 (E (st k + i) : Nat)) := by
                          have hb : Below lo W7 (W7.setCell ⟨bf, q8, none⟩ (.int .i64 v8)) := (Below.refl _ _).setCell hbfr.1 _
                          rw [hW8]; exact HC7.out.below ⟨hb.os, hb.tape, hb.output, hb.size, hb.block⟩
                        clear hW8 hfc7 hfz7 hv8 hq8
                        go_wp2_with fail
                        have hii := HI.out
                        go_roundg (gk - 1)
                        case rel => exact ⟨i + 1, by omega, by go_num, hC8, hl8, hG8⟩
                        case measure => omega
                      · have hij2 : i = j := by omega
                        have hij' : ¬ (i : Int) < j := by omega
                        clear hii hCi hLi hGi
                        go_wp2_with fail
                        have hf := HF.out
                        go_roundg (2 - (f + 1))
                        case rel =>
                          refine ⟨f + 1, by omega, by go_num, HCi.out, HLi.out, HGi.out.congr (fun _ _ => rfl) (fun _ _ _ _ => rfl) (fun bf hb p hp => ?_)⟩
                          by_cases e1 : p / 1548 = f
                          · rw [if_neg (by omega), if_pos (by omega), dl_step E st n L S p k hp, e1, hij2, HMm.out, Int.add_assoc]
                          · have hmv : mv E st n L S f k i p = 0 := by unfold mv; rw [if_neg e1]
                            rw [hmv, Int.add_zero]
                            by_cases e2 : p / 1548 < f
                            · rw [if_pos e2, if_pos (by omega)]
                            · rw [if_neg e2, if_neg (by omega)]
                        case measure => have := HG1.out; omega
              · have hf3 : f = 2 := by omega
                have hf2' : ¬ (f : Int) < 2 := by omega
                clear hf hCBf hlf hGf
                go_wp2_with fail
                have hk := HK.out
                go_roundg (G - (k + 1))
                case rel =>
                  refine ⟨k + 1, by omega, by go_num, HGf.out.congr (fun f' hf' => ?_) (fun f' i hf' _ => ?_) (fun bf hb p hp => ?_)⟩
                  · rw [if_pos (by omega)]
                  · rw [slA_at _ _ _ _ _ (fun f' => if f' < f then k + 1 else k) f' i (k + 1) (if_pos (by omega)), slA_at _ _ _ _ _ (fun _ => k + 1) f' i (k + 1) rfl]
                  · rw [if_pos (by omega)]
                case measure => have := HGK.out; omega
      · have hkG2 : k = G := by omega
        have hkG' : ¬ (k : Int) < G := by omega
        have hb0 := hGs.bits.cell (i := 0) (by omega)
        have hb1 := hGs.bits.cell (i := 1) (by omega)
        have hres := hGs.pk.res
        have hr0 : wr.cell? ⟨w.heap.size + 1, 0, none⟩ = some (.int .i64 0) := by rw [World.cell?]; simp only [hres]; rfl
        have hr1 : wr.cell? ⟨w.heap.size + 1, 1, none⟩ = some (.int .i64 0) := by rw [World.cell?]; simp only [hres]; rfl
        have hz : ∀ i, wr.frozen? ⟨w.heap.size + 1, i, none⟩ = false := fun i => by rw [World.frozen?]; simp only [hres]; simp
        have hrr : wr.rowIs (w.heap.size + 1) 43 2 (fun _ => .int .i64 0) := ⟨_, hres, rfl, fun i hi => by
          match i, hi with
          | 0, _ => rfl
          | 1, _ => rfl⟩
        obtain ⟨B0, hB0⟩ : ∃ x, x = bsm E st n L 0 k := ⟨_, rfl⟩
        obtain ⟨B1, hB1⟩ : ∃ x, x = bsm E st n L 1 k := ⟨_, rfl⟩
        rw [← hB0] at hb0
        rw [← hB1] at hb1
        have HB0 : Hid (B0 = bsm E st n L 0 k) := hB0
        have HB1 : Hid (B1 = bsm E st n L 1 k) := hB1
        have HRR : Hid (wr.rowIs (w.heap.size + 1) 43 2 (fun _ => .int .i64 0)) := hrr
        clear hk hGs hres hB0 hB1 hrr
        go_wp2_with fail
        obtain ⟨W9, hW9⟩ : ∃ W, W = ((wr.setCell ⟨w.heap.size + 1, 0, none⟩ (.int .i64 (B0 : Nat))).setCell ⟨w.heap.size + 1, 1, none⟩ (.int .i64 (B1 : Nat))) := ⟨_, rfl⟩
        rw [← hW9]
        have hrow : W9.rowIs (w.heap.size + 1) 43 2 (fun i => if i = 1 then .int .i64 (B1 : Nat) else if i = 0 then .int .i64 (B0 : Nat) else .int .i64 0) := by
          rw [hW9]; exact set2 HRR.out 0 1 _ _
        obtain ⟨c, hc1, hc2, hc3⟩ := hrow
        have hcc : c = #[.int .i64 (B0 : Nat), .int .i64 (B1 : Nat)] := by
          apply Array.ext_getElem?
          intro i
          by_cases hi2 : i < 2
          · rw [hc3 i hi2]
            match i, hi2 with
            | 0, _ => rfl
            | 1, _ => rfl
          · rw [Array.getElem?_eq_none (by omega), Array.getElem?_eq_none (by simp; omega)]
        rw [hcc] at hc1
        have hne : ∀ b, b < w.heap.size + 1 ∨ w.heap.size + 1 < b → W9.heap[b]? = wr.heap[b]? := fun b hb => by
          rw [hW9, Below.heap_setCell _ _ _ _ (by show b ≠ w.heap.size + 1; omega), Below.heap_setCell _ _ _ _ (by show b ≠ w.heap.size + 1; omega)]
        have hM9 : Mid lo hi w W9 := by
          rw [hW9]
          exact (HGs.out.pk.mid.set (by show lo ≤ w.heap.size + 1; omega) (.inr (by show w.heap.size ≤ w.heap.size + 1; omega)) _).set (by show lo ≤ w.heap.size + 1; omega) (.inr (by show w.heap.size ≤ w.heap.size + 1; omega)) _
        refine bodyPost_ret (v := .agg #[.int .i64 (B0 : Nat), .int .i64 (B1 : Nat)]) (results_cell_row (P := Try.prog) (p := 6) (ty := 43) rfl _ _ (w.heap.size + 1) 43 _ (0, 0) _ rfl hc1 Try.underlying43 rfl (zero_of_info Try.zinfo43).2) rfl ⟨?_, hM9, fun f hf hG => ?_, fun bf hb => ?_⟩
        · rw [HB0.out, HB1.out, hkG2]
        · have hs := HAp.out.sel f hf hG
          have := HAp.out.hiw
          refine ((HGs.out.sel f hf hG).of_block (hne _ (by omega))).congr (fun i hi => ?_)
          rw [slA, if_pos (by omega)]
        · have hs := HAp.out.fit bf hb
          have := HAp.out.hiw
          refine ((HGs.out.fit bf hb).of_block (hne _ (by omega))).congr (fun i hi => ?_)
          rw [hkG2]
end Go.Proofs.Qxb6601576a
