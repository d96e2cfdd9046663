import Derived.Test.Qxb6601109aInv
import Derived.Deep.CutBlock
import Derived.Deep.DeepCutAuto
namespace Go.Proofs.Qxb6601109a
open Go.RowKit Go.Maps

theorem cloneList_any {a : Option Addr} {ks : List (List UInt8)} {c : Nat} {w : World} (hn : ks.length ≤ 4096) (hs : Small ks) (h : LS w a ks) :
    Calls Try.prog 9 #[.slice a ks.length c] w fun e w' => ∃ a' c', e = .returned (.slice a' ks.length c') ∧ KeyRow w' w.heap.size (.slice a' ks.length c') ks ∧ Below w.heap.size w w' := by
  cases a with
  | none =>
    have hx : ks = [] := by
      rcases h.2 with h | ⟨b, o, h, _⟩
      · exact h
      · cases h
    subst hx
    refine (cloneList_nil 0 c w).mono ?_
    rintro e w' ⟨rfl, rfl⟩
    exact ⟨none, 0, rfl, ⟨[], World.ownsRow_nil _ _ _ _, fun i hi => by simp at hi⟩, Below.refl _ _⟩
  | some a =>
    refine (cloneList_some a ks c w hn (fun i hi => hs.at hi) h).mono ?_
    rintro e w' ⟨rfl, ⟨f, ⟨cur, hb, hsz, hcur⟩, hf⟩, hbel⟩
    refine ⟨_, _, rfl, ⟨cur.toList, ⟨by simp [hsz], .inr ⟨w.heap.size, ks.length, cur, rfl, Nat.le_refl _, hb, Nat.le_refl _, by have := hs.1; unfold maxLen; omega, by omega, ?_⟩⟩, fun i hi => ?_⟩, hbel⟩
    · rw [List.take_of_length_le (by simp [hsz])]
    · have e1 : cur.toList.getD i undef = f i := by
        have := hcur i hi
        simp [List.getD, this]
      rw [e1]
      exact (hf i hi).mono (by omega) (Nat.le_refl _) (fun _ _ _ => rfl)

theorem Small.of {ks : List (List UInt8)} {bud : Int} (hb : bud ≤ 1048576) (_h1 : 24 * (ks.length : Int) ≤ bud) (h2 : ∀ i, i < ks.length → ((ks.getD i []).length : Int) ≤ bud) (h4 : ks.length ≤ 4096) : Small ks := by
  refine ⟨by omega, fun x hx => ?_⟩
  obtain ⟨j, hj, rfl⟩ := (mem_getD (d := [])).1 hx
  have := h2 j hj
  omega

theorem LS.cells {w : World} {a : Option Addr} {ks : List (List UInt8)} (h : LS w a ks) : ∀ i, i < ks.length → ∃ b o, a = some ⟨b, o, none⟩ ∧ ∃ a l c, w.cell? ⟨b, o + i, none⟩ = some (.slice a l c) ∧ l ≤ 9223372036854775807 := by
  intro i hi
  obtain ⟨b, o, he, a', c', hc, hb⟩ := h.at hi
  exact ⟨b, o, he, a', _, c', hc, hb.1⟩
theorem LS.cells' {w : World} {a : Option Addr} {ks : List (List UInt8)} (h : LS w a ks) : ∀ i, i < ks.length → ∃ b o, a = some ⟨b, o, none⟩ ∧ ∃ a c, w.cell? ⟨b, o + i, none⟩ = some (.slice a (ks.getD i []).length c) ∧ (ks.getD i []).length ≤ 9223372036854775807 := by
  intro i hi
  obtain ⟨b, o, he, a', c', hc, hb⟩ := h.at hi
  exact ⟨b, o, he, a', c', hc, hb.1⟩

/-- The same world but for draws. -/
def Drawn (w w' : World) : Prop := ∃ q, w' = w.drewN q
theorem Drawn.cell {w w' : World} (h : Drawn w w') {a : Addr} {v : Value} (hc : w.cell? a = some v) : w'.cell? a = some v := by obtain ⟨q, rfl⟩ := h; exact hc
theorem Drawn.bs {w w' : World} (h : Drawn w w') {a : Option Addr} {xs : List UInt8} (hc : BS w a xs) : BS w' a xs := by obtain ⟨q, rfl⟩ := h; exact hc
theorem Drawn.ls {w w' : World} (h : Drawn w w') {a : Option Addr} {ks : List (List UInt8)} (hc : LS w a ks) : LS w' a ks := by obtain ⟨q, rfl⟩ := h; exact hc
theorem Drawn.more {w w' : World} (h : Drawn w w') (n : Nat) : Drawn w (w'.drewN n) := by obtain ⟨q, rfl⟩ := h; exact ⟨q + n, World.drewN_drewN _ _ _⟩
theorem Drawn.below {w w' : World} (h : Drawn w w') : Below w.heap.size w w' := by obtain ⟨q, rfl⟩ := h; exact ⟨rfl, rfl, rfl, Nat.le_refl _, fun _ _ => rfl⟩

theorem Drawn.inv {P S : List (List UInt8)} {W wr w' : World} {cb db k : Nat} {v : Value} {m : Option Nat} (h : Drawn wr w') (hi : Inv P S W wr cb db k v m) : Inv P S W w' cb db k v m := by
  obtain ⟨q, rfl⟩ := h
  exact ⟨hi.st, ⟨hi.below.os, hi.below.tape, hi.below.output, hi.below.size, hi.below.block⟩, hi.row, hi.dc, hi.dv, hi.dm, hi.dlt⟩
/-- At most eight. -/
def cap8 (n : Nat) : Nat := min n 8

theorem DRow.at {W wr : World} {base db : Nat} {D : List (List UInt8)} (h : DRow W wr base db D) (hb : Below W.heap.size W wr) {j : Nat} (hj : j < min D.length 8) :
    ∃ a c, wr.cell? ⟨db, j, none⟩ = some (.slice a (D.getD j []).length c) ∧ BS wr a (D.getD j []) := by
  obtain ⟨dvals, hown, hd⟩ := h
  obtain ⟨a, c, hv, hbs⟩ := hd j hj
  have hjl : j < dvals.length := by have := hown.1; omega
  refine ⟨a, c, ?_, hbs.below hb⟩
  have := hown.cells (g := db) rfl j (dvals.getD j undef) (by simp [List.getD, List.getElem?_eq_getElem hjl])
  rw [add_plain, Nat.zero_add] at this
  rw [this, hv]

/-- What the law answers. -/
def Good (w : World) (e : Ending) (w' : World) : Prop := e = .returned (.bool true) ∧ Below w.heap.size w w'

set_option maxHeartbeats 1000000 in
set_option maxRecDepth 100000 in
theorem law1_walk (a1 a2 : Option Addr) (c1 c2 : Nat) (P S : List (List UInt8)) (w : World) (h1 : LS w a1 P) (h2 : LS w a2 S) :
    Calls Try.prog 3 #[.slice a1 P.length c1, .slice a2 S.length c2] w (Good w) := by
  have hm1 := h1.1
  have hm2 := h2.1
  by_cases hbig : 4096 < (P.length : Int) ∨ 4096 < (S.length : Int)
  · go_enter Try.func3, Try.ntmps3
    go_wp2_with fail
    refine (zzBytes_walk a1 a2 _ _ c1 c2 w hm1 hm2 h1.cells h2.cells).mono ?_
    rintro e w' ⟨⟨b, rfl⟩, hw⟩
    rw [hw]; clear hw w'
    cases b with
    | false =>
      go_wp2_with fail
      go_ret
      exact ⟨rfl, Below.refl _ _⟩
    | true =>
      rcases hbig with h | h
      · go_wp2_with fail
        go_ret
        exact ⟨rfl, Below.refl _ _⟩
      · by_cases h' : 4096 < (P.length : Int)
        · go_wp2_with fail
          go_ret
          exact ⟨rfl, Below.refl _ _⟩
        · go_wp2_with fail
          go_ret
          exact ⟨rfl, Below.refl _ _⟩
  have hP4 : (P.length : Int) ≤ 4096 := by omega
  have hS4 : (S.length : Int) ≤ 4096 := by omega
  have hmk : ∀ w, (Instr.makeSlice 22 (.int .i64 0) (.int .i64 8)).run Try.prog w = .ok (.slice (some ⟨w.heap.size, 0, none⟩) 0 8) (w.alloc (.cells (Array.replicate 8 (.slice none 0 0)) 29)) := fun _ => by kernel_rfl
  go_enter Try.func3, Try.ntmps3
  go_wp2_with fail
  refine (zzBytes_walk a1 a2 _ _ c1 c2 w hm1 hm2 h1.cells h2.cells).mono ?_
  rintro e w' ⟨⟨b, rfl⟩, hw⟩
  rw [hw]; clear hw w'
  cases b with
  | false =>
    go_wp2_with fail
    go_ret
    exact ⟨rfl, Below.refl _ _⟩
  | true =>
  go_wp2_with fail
  refine (budget_walk a1 P.length c1 (fun i => (P.getD i []).length) 1048576 _ hm1 (by omega) (by omega) h1.cells').mono ?_
  rintro e w' ⟨r, rfl, hw, hr1, hr2, hr3⟩
  rw [hw]; clear hw w'
  by_cases hr0 : r < 0
  · go_wp2_with fail
    go_ret
    exact ⟨rfl, Below.refl _ _⟩
  obtain ⟨hr4, hr5⟩ := hr3 (by omega)
  clear hr3
  have HsP : Hid (Small P) := Small.of (by omega) hr4 hr5 (by omega)
  clear hr4 hr5
  go_wp2_with fail
  refine (budget_walk a2 S.length c2 (fun i => (S.getD i []).length) r _ hm2 (by omega) (by omega) h2.cells').mono ?_
  rintro e w' ⟨r2, rfl, hw, hr21, hr22, hr23⟩
  rw [hw]; clear hw w'
  by_cases hr20 : r2 < 0
  · go_wp2_with fail
    go_ret
    exact ⟨rfl, Below.refl _ _⟩
  obtain ⟨hr4, hr5⟩ := hr23 (by omega)
  clear hr23
  have HsS : Hid (Small S) := Small.of (by omega) hr4 hr5 (by omega)
  clear hr4 hr5
  go_wp2_with fail
  refine (cloneList_any (by omega) HsP.out h1).mono ?_
  rintro e w1 ⟨ap, cp, rfl, hrow1, hb1⟩
  go_wp2_with fail
  refine (cloneList_any (by omega) HsS.out (h2.below hb1)).mono ?_
  rintro e w2 ⟨asq, csq, rfl, hrow2, hb2⟩
  obtain ⟨_, _, he, _, hls1⟩ := hrow1.shape HsP.out
  cases he
  obtain ⟨_, _, he, _, hls2⟩ := hrow2.shape HsS.out
  cases he
  have hlP : LS w2 ap P := (hls1 w1 (Kept.refl _)).below hb2
  have hlS : LS w2 asq S := hls2 w2 (Kept.refl _)
  have HB2 : Hid (Below w.heap.size w w2) := hb1.trans (hb2.mono hb1.size)
  clear hls1 hls2 hrow1 hrow2 hb1 hb2 h1 h2
  go_wp2_with fail
  refine (cloneList_any (by omega) HsP.out hlP).mono ?_
  rintro e w3 ⟨ak, ck, rfl, hrow3, hb3⟩
  go_wp2_with (go_at_call 10; refine (newObject_walk _ _).mono ?_; rintro e w4 ⟨rfl, hw4⟩; rw [hw4]; clear hw4)
  have hInv : Inv P S w2 ((w3.alloc (.cells (ctr P.length (.map none)) 38)).alloc (.cells (Array.replicate 8 (.slice none 0 0)) 29)) w3.heap.size (w3.heap.size + 1) 0 (.slice ak P.length ck) none := by
    obtain ⟨vals, hown3, hel3⟩ := hrow3
    have hk3 : KeyRow w3 w2.heap.size (.slice ak P.length ck) P := ⟨vals, hown3, hel3⟩
    have hba : Below w3.heap.size w3 ((w3.alloc (.cells (ctr P.length (.map none)) 38)).alloc (.cells (Array.replicate 8 (.slice none 0 0)) 29)) := ((Below.refl _ _).alloc (Nat.le_refl _) _).alloc (by simp) _
    have hcbe : ((w3.alloc (.cells (ctr P.length (.map none)) 38)).alloc (.cells (Array.replicate 8 (.slice none 0 0)) 29)).heap[w3.heap.size]? = some (.cells (ctr P.length (.map none)) 38 (0, 0)) := at_alloc (heap_alloc_new w3 _) _
    refine ⟨⟨hcbe, Nat.le_trans hb3.size hba.size, .inl ⟨by simp [DD], rfl, ?_⟩⟩, hb3.trans (hba.mono hb3.size), ⟨[], ?_, fun j hj => by simp [DD] at hj⟩, by omega, ?_, by simp, by simp⟩
    · have e : P ++ DD S 0 = P := by simp [DD]
      rw [e]
      exact hk3.kept hba.size (below_kept hba)
    · have := World.ownsRow_made (base := w2.heap.size) (e := 29) (size := 1) (w3.alloc (.cells (ctr P.length (.map none)) 38)) (Array.replicate 8 (.slice none 0 0)) 8 (by have := hb3.size; simp; omega) (by unfold maxLen; omega) (by simp)
      simpa [DD] using this
    · intro e
      have := (hown3.lt _ e.symm).2
      omega
  have HI : Hid (Inv P S w2 ((w3.alloc (.cells (ctr P.length (.map none)) 38)).alloc (.cells (Array.replicate 8 (.slice none 0 0)) 29)) w3.heap.size (w3.heap.size + 1) 0 (.slice ak P.length ck) none) := hInv
  have hcbge : w2.heap.size ≤ w3.heap.size := hb3.size
  clear hInv hrow3 hb3 hmk
  obtain ⟨cb, hcb⟩ : ∃ cb, cb = w3.heap.size := ⟨_, rfl⟩
  rw [← hcb] at HI hcbge ⊢
  clear hcb
  go_loopg [6, 8, 9, 10] S.length (fun g kv dv nd i wr => ∃ (k : Nat) (m : Option Nat) (ak : Option Addr) (ck : Nat), k + g = S.length ∧ i = .int .i64 k ∧ kv = .slice ak (kn P (DD S k)).length ck ∧ dv = .slice (some ⟨cb + 1, 0, none⟩) (cap8 (DD S k).length) 8 ∧ nd = .int .i64 (DD S k).length ∧ Inv P S w2 wr cb (cb + 1) k kv m ∧ (∀ x, m = some x → w2.heap.size ≤ x))
  case atStart => exact ⟨0, none, ak, ck, by omega, rfl, by simp [kn, DD], by simp [DD, cap8], by simp [DD], HI.out, fun x hx => by cases hx⟩
  case round =>
    obtain ⟨k, m, ak, ck, hk, rfl, rfl, rfl, rfl, hI, hm⟩ := hrel
    clear HI
    rename World => wo
    by_cases hlt : k < S.length
    · obtain ⟨bs, os, hea, ax, cx, hcx, hbx⟩ := (hlS.below hI.below).at hlt
      subst hea
      have hlSr := hlS.below hI.below
      obtain ⟨x, hx⟩ : ∃ x, x = S.getD k [] := ⟨_, rfl⟩
      rw [← hx] at hcx hbx
      have HX : Hid (x = S.getD k []) := hx
      have HI : Hid (Inv P S w2 wo cb (cb + 1) k (.slice ak (kn P (DD S k)).length ck) m) := hI
      have HK : Hid (k + gk = S.length) := hk
      have hk4 : k < 4096 := by omega
      clear hx hI hk
      go_upto_block 2 with fail
      go_cut [11] (fun sn w' => sn = .bool (decide (x ∈ DD S k)) ∧ Drawn wo w')
      case first =>
        go_wp2_with fail
        go_loopg [11, 12] k (fun g sn j wr' => ∃ (j' : Nat), j' + g = k ∧ j = .int .i64 j' ∧ sn = .bool false ∧ (∀ i, i < j' → S.getD i [] ≠ x) ∧ Drawn wo wr')
        case atStart => exact ⟨0, by omega, rfl, rfl, fun i hi => by omega, 0, rfl⟩
        case round =>
          obtain ⟨j, hj, rfl, rfl, hall, hdr⟩ := hrel
          have HD : Hid (Drawn wo wr) := hdr
          by_cases hjk : j < k
          · obtain ⟨bs', os', hea, ay, cy, hcy, hby⟩ := (hdr.ls hlSr).at (show j < S.length by omega)
            cases hea
            have hcx' := hdr.cell hcx
            have hbx' := hdr.bs hbx
            obtain ⟨y, hy⟩ : ∃ y, y = S.getD j [] := ⟨_, rfl⟩
            rw [← hy] at hcy hby
            have HY : Hid (y = S.getD j []) := hy
            have HA : Hid (∀ i, i < j → S.getD i [] ≠ x) := hall
            have HJ : Hid (j + gk = k) := hj
            clear hy hall hj hdr hcx
            have hjk' : (j : Int) < k := by omega
            have hkS : (k : Int) < S.length := by omega
            have hjS : (j : Int) < S.length := by omega
            by_cases hyx : y = x
            · have hd : decide (y = x) = true := by simp [hyx]
              have HYX : Hid (y = x) := hyx
              clear hyx
              go_wp2_with fail
              go_quiet ((go_at_call 11; refine Calls.quiet_of (bytesEq_any ?_ ?_); exact hby; exact hbx'))
              go_wp2_with fail
              go_meet
              case rel =>
                refine ⟨?_, HD.out.more _⟩
                rw [decide_eq_true]
                rw [DD_mem, mem_getD (d := [])]
                exact ⟨j, by simp; omega, by rw [List.getD, List.getElem?_take_of_lt hjk]; exact (HY.out.symm.trans HYX.out)⟩
            · have hd : decide (y = x) = false := by simp [hyx]
              have HYX : Hid (y ≠ x) := hyx
              clear hyx
              go_wp2_with fail
              go_quiet ((go_at_call 11; refine Calls.quiet_of (bytesEq_any ?_ ?_); exact hby; exact hbx'))
              go_wp2_with fail
              have hj := HJ.out
              go_roundg (gk - 1)
              case rel =>
                refine ⟨j + 1, by omega, by go_num, rfl, ?_, HD.out.more _⟩
                intro i hi
                rcases Nat.lt_succ_iff_lt_or_eq.1 hi with h | rfl
                · exact HA.out i h
                · rw [← HY.out]; exact HYX.out
              case measure => omega
          · have hjk' : j = k := by omega
            subst hjk'
            go_wp2_with fail
            go_meet
            case rel =>
              refine ⟨?_, HD.out⟩
              rw [decide_eq_false]
              rw [DD_mem, mem_getD (d := [])]
              rintro ⟨i, hi, e⟩
              simp at hi
              rw [List.getD, List.getElem?_take_of_lt (by omega)] at e
              exact hall i (by omega) e
      case rest =>
        obtain ⟨rfl, hdr⟩ := hcut
        obtain ⟨sb, hsb⟩ : ∃ sb, sb = decide (x ∈ DD S k) := ⟨_, rfl⟩
        rw [← hsb]
        have HSB : Hid (sb = decide (x ∈ DD S k)) := hsb
        clear hsb
        have hbx' := hdr.bs hbx
        have hcx' := hdr.cell hcx
        have hxl : x.length ≤ 1048576 := by have := HsS.out.at hlt; rw [HX.out]; exact this
        have HDr : Hid (Drawn wo wc) := hdr
        have hkS : (k : Int) < S.length := by omega
        clear hdr hcx hbx hlSr
        go_wp2_with fail
        refine (cloneBytes_own hbx' hxl).mono ?_
        rintro e w5 ⟨a5, c5, rfl, ho5, hb5⟩
        have hbo5 : Below wo.heap.size wo w5 := HDr.out.below.trans (hb5.mono HDr.out.below.size)
        have hst5 := HI.out.st.below hbo5
        have hw25 : w2.heap.size ≤ wc.heap.size := Nat.le_trans HI.out.below.size HDr.out.below.size
        have hown5 : Own w5 w2.heap.size w5.heap.size (.slice a5 x.length c5) x := ho5.mono hw25 (Nat.le_refl _) (fun _ _ _ => rfl)
        have HB5 : Hid (Below wo.heap.size wo w5) := hbo5
        clear ho5 hb5 hbo5
        go_wp2_with fail
        refine (step hst5 hown5 HsP.out (by omega) (DD_small HsS.out k (by omega)) (by have := DD_len S k (by omega); omega) hxl).mono ?_
        rintro e w6 ⟨v', b, rfl, hsteps⟩
        rw [HX.out] at hsteps
        obtain ⟨hbv, m', hmid, hm'⟩ := HI.out.step hlt hcbge hm HB5.out hsteps
        obtain ⟨a6, c6, hv6, hc6, hls6⟩ := hmid.st.row.shape (kn_small HsP.out (by omega) (DD_small HsS.out (k + 1) (by omega)))
        rw [hbv, hv6, ← HX.out, ← HSB.out]
        rw [hv6] at hmid
        have HM : Hid (Mid P S w2 w6 cb (cb + 1) k (.slice a6 (kn P (DD S (k + 1))).length c6) m') := hmid
        have HL6 : Hid (LS w6 a6 (kn P (DD S (k + 1)))) := hls6 w6 (Kept.refl _)
        clear hsteps hbv hv6 hmid hst5 hown5 hls6 hbx'
        have hbb : (sb != sb) = false := by simp
        go_upto_if 83 with fail
        go_cut [8, 9] (fun dv nd w' => dv = .slice (some ⟨cb + 1, 0, none⟩) (cap8 (DD S (k + 1)).length) 8 ∧ nd = .int .i64 (DD S (k + 1)).length ∧ Inv P S w2 w' cb (cb + 1) (k + 1) (.slice a6 (kn P (DD S (k + 1))).length c6) m' ∧ LS w' a6 (kn P (DD S (k + 1))))
        case first =>
          cases sb with
          | true =>
            have hin := of_decide_eq_true HSB.out.symm
            rw [HX.out] at hin
            go_wp2_with fail
            go_meet
            case rel =>
              have e : DD S (k + 1) = DD S k := by rw [DD_succ S k hlt, nextD, if_pos hin]
              refine ⟨by rw [e], by rw [e], HM.out.same hlt (.inl hin), HL6.out⟩
          | false =>
            have hin := of_decide_eq_false HSB.out.symm
            rw [HX.out] at hin
            have hdl := DD_len S k (by omega)
            have HNin : Hid (¬ S.getD k [] ∈ DD S k) := hin
            have hlen1 : (DD S (k + 1)).length = (DD S k).length + 1 := by rw [DD_succ S k hlt, nextD, if_neg hin]; simp
            have HL1 : Hid ((DD S (k + 1)).length = (DD S k).length + 1) := hlen1
            clear hlen1 hin
            by_cases h8 : (DD S k).length < 8
            · obtain ⟨_, _, he, ax2, cx2, hc2, hb2⟩ := hlS.at hlt
              cases he
              rw [← HX.out] at hc2 hb2
              have hc2' : w6.cell? ⟨bs, os + k, none⟩ = some (.slice ax2 x.length cx2) := (HM.out.below.cell (p := ⟨bs, os + k, none⟩) (World.block_lt_of_cell? _ _ hc2)).trans hc2
              obtain ⟨dvals, hown, hdv⟩ := HM.out.row
              obtain ⟨i0, hi, hz0, hz1, hz2⟩ := info_parts Try.info29
              have hown7 : (w6.alloc (.cells #[.slice ax2 x.length cx2] 29)).ownsRow w2.heap.size 29 1 (.slice (some ⟨cb + 1, 0, none⟩) (cap8 (DD S k).length) 8) (cap8 (DD S k).length) dvals := hown.alloc (.cells #[.slice ax2 x.length cx2] 29)
              have HDv : Hid (∀ j, j < min (DD S k).length 8 → Elt w2 (dvals.getD j undef) ((DD S k).getD j [])) := hdv
              have HO : Hid (dvals.length = (DD S k).length) := by have := hown.1; show _ = _; omega
              have HB : Hid (BS w2 ax2 x) := hb2
              have h8' : ((DD S k).length : Int) + 1 ≤ 8 := by omega
              clear hown hdv hb2 hc2
              go_wp2_with (first | (at_builtin; refine wpList_append_fits _ rfl (.tmp 88) (.tmp 93) 22 rfl w2.heap.size 29 i0 1 Try.underlying22 hi hz1 (cb + 1) (cap8 (DD S k).length) 8 dvals rfl hown7 ⟨w6.heap.size, 0, none⟩ 1 1 [.slice ax2 x.length cx2] rfl rfl ?_ ?_ ?_ ?_))
              · exact cell_one_new _ _ _
              · intro u hu; simp at hu; subst hu; rfl
              · unfold cap8; omega
              · intro w8 hown8 hg8
                go_wp2_with fail
                go_meet
                case rel =>
                  have e0 : cap8 (DD S k).length = (DD S k).length := by unfold cap8; omega
                  have e1 : cap8 (DD S (k + 1)).length = cap8 (DD S k).length + 1 := by unfold cap8; rw [HL1.out]; omega
                  rw [e0] at hown8
                  have hI8 := HM.out.app hlt HNin.out h8 HDv.out HO.out (x := .slice ax2 x.length cx2) ⟨ax2, cx2, by rw [HX.out], by rw [← HX.out]; exact HB.out⟩ (kept_alloc_same _) hown8 hg8
                  refine ⟨by rw [e1], ?_, hI8, ?_⟩
                  · rw [HL1.out]; simp
                  · obtain ⟨a9, c9, hv9, _, hls9⟩ := hI8.st.row.shape (kn_small HsP.out (by omega) (DD_small HsS.out (k + 1) (by omega)))
                    cases hv9
                    exact hls9 _ (Kept.refl _)
            · have h8' : ¬ ((DD S k).length : Int) + 1 ≤ 8 := by omega
              go_wp2_with fail
              go_meet
              case rel =>
                refine ⟨?_, ?_, HM.out.same hlt (.inr (by omega)), HL6.out⟩
                · rw [HL1.out, show cap8 ((DD S k).length + 1) = cap8 (DD S k).length by unfold cap8; omega]
                · rw [HL1.out]; simp
        case rest =>
          rename World => wd
          obtain ⟨rfl, rfl, hI', hL'⟩ := hcut
          have HI' : Hid (Inv P S w2 wd cb (cb + 1) (k + 1) (.slice a6 (kn P (DD S (k + 1))).length c6) m') := hI'
          have hDl := DD_len S (k + 1) (by omega)
          have hkl : (kn P (DD S (k + 1))).length ≤ 5000 := by unfold kn; split <;> (try simp) <;> omega
          have hlPd := hlP.below hI'.below
          have HR : Hid (DRow w2 wd w2.heap.size (cb + 1) (DD S (k + 1))) := hI'.row
          have HBl : Hid (Below w2.heap.size w2 wd) := hI'.below
          clear hI' HI HM HL6 HB5 HDr hbb hcx' hm
          go_upto_if 98 with fail
          go_cut [14] (fun wt w' => wt = .int .i64 (kn P (DD S (k + 1))).length ∧ w' = wd)
          case first =>
            by_cases h8 : (DD S (k + 1)).length ≤ 8
            · have h8' : ((DD S (k + 1)).length : Int) ≤ 8 := by omega
              go_wp2_with fail
              go_meet
              case rel => exact ⟨by rw [kn, if_pos h8]; simp, rfl⟩
            · have h8' : ¬ ((DD S (k + 1)).length : Int) ≤ 8 := by omega
              go_wp2_with fail
              go_meet
              case rel => exact ⟨by rw [kn, if_neg h8], rfl⟩
          case rest =>
          obtain ⟨rfl, hwd⟩ := hcut
          rw [hwd]
          clear hwd
          have hne : (((kn P (DD S (k + 1))).length : Int) != ((kn P (DD S (k + 1))).length : Int)) = false := by simp
          go_upto_if 107 with fail
          go_cut [15] (fun _ w' => Drawn wd w')
          case first =>
            by_cases h8 : (DD S (k + 1)).length ≤ 8
            · have h8' : ((DD S (k + 1)).length : Int) ≤ 8 := by omega
              have hdq : decide (((DD S (k + 1)).length : Int) ≤ 8) = true := by simp [h8']
              rw [hdq]
              go_wp2_with fail
              go_loopg [15] (DD S (k + 1)).length (fun g j wr => ∃ (j' : Nat), j' + g = (DD S (k + 1)).length ∧ j = .int .i64 j' ∧ Drawn wd wr)
              case atStart => exact ⟨0, by omega, rfl, 0, rfl⟩
              case round =>
                obtain ⟨j, hj, rfl, hdr⟩ := hrel
                have HDr : Hid (Drawn wd wr) := hdr
                by_cases hjk : j < (DD S (k + 1)).length
                · have hkn : (kn P (DD S (k + 1))).length = P.length + (DD S (k + 1)).length := by rw [kn, if_pos h8]; simp
                  obtain ⟨b9, o9, he9, a9, c9, hc9, hb9⟩ := (hdr.ls hL').at (i := P.length + j) (by omega)
                  subst he9
                  obtain ⟨a8, c8, hc8, hb8⟩ := HR.out.at HBl.out (j := j) (by omega)
                  have hc8' := hdr.cell hc8
                  have hb8' := hdr.bs hb8
                  have e9 : (kn P (DD S (k + 1))).getD (P.length + j) [] = (DD S (k + 1)).getD j [] := by
                    rw [kn, if_pos h8]; simp [List.getD, List.getElem?_append_right]
                  rw [e9] at hc9 hb9
                  obtain ⟨y, hy⟩ : ∃ y, y = (DD S (k + 1)).getD j [] := ⟨_, rfl⟩
                  rw [← hy] at hc9 hb9 hc8' hb8'
                  have HJ : Hid (j + gk = (DD S (k + 1)).length) := hj
                  have hx1 : (P.length : Int) + j < (kn P (DD S (k + 1))).length := by omega
                  have hx2 : (j : Int) < (cap8 (DD S (k + 1)).length : Nat) := by unfold cap8; omega
                  have hx3 : (j : Int) < (DD S (k + 1)).length := by omega
                  have hd : decide (y = y) = true := by simp
                  clear hy e9 hkn hj hdr hc8 hb8
                  go_wp2_with fail
                  go_quiet ((go_at_call 11; refine Calls.quiet_of (bytesEq_any ?_ ?_); exact hb9; exact hb8'))
                  go_wp2_with fail
                  have hj := HJ.out
                  go_roundg (gk - 1)
                  case rel => exact ⟨j + 1, by omega, by go_num, HDr.out.more _⟩
                  case measure => omega
                · have hjj : j = (DD S (k + 1)).length := by omega
                  subst hjj
                  go_wp2_with fail
                  go_meet
                  case rel => exact HDr.out
            · have h8' : ¬ ((DD S (k + 1)).length : Int) ≤ 8 := by omega
              go_wp2_with fail
              go_meet
              case rel => exact ⟨0, rfl⟩
          case rest =>
          rename World => we
          have hLe := hcut.ls hL'
          have hlPe := hcut.ls hlPd
          have HIe : Hid (Inv P S w2 we cb (cb + 1) (k + 1) (.slice a6 (kn P (DD S (k + 1))).length c6) m') := hcut.inv HI'.out
          clear hcut hL' hlPd hne HI' HR HBl
          go_wp2_with fail
          go_loopg [16] P.length (fun g j wr => ∃ (j' : Nat), j' + g = P.length ∧ j = .int .i64 j' ∧ Drawn we wr)
          case atStart => exact ⟨0, by omega, rfl, 0, rfl⟩
          case round =>
            obtain ⟨j, hj, rfl, hdr⟩ := hrel
            have HDr : Hid (Drawn we wr) := hdr
            by_cases hjk : j < P.length
            · have hkn : P.length ≤ (kn P (DD S (k + 1))).length := by unfold kn; split <;> (try simp)
              obtain ⟨b9, o9, he9, a9, c9, hc9, hb9⟩ := (hdr.ls hLe).at (i := j) (by omega)
              subst he9
              obtain ⟨b8, o8, he8, a8, c8, hc8, hb8⟩ := (hdr.ls hlPe).at (i := j) hjk
              subst he8
              have e9 : (kn P (DD S (k + 1))).getD j [] = P.getD j [] := by
                unfold kn; split
                · simp only [List.getD, List.getElem?_append_left hjk]
                · rfl
              rw [e9] at hc9 hb9
              obtain ⟨y, hy⟩ : ∃ y, y = P.getD j [] := ⟨_, rfl⟩
              rw [← hy] at hc9 hb9 hc8 hb8
              have HJ : Hid (j + gk = P.length) := hj
              have hx1 : (j : Int) < (kn P (DD S (k + 1))).length := by omega
              have hx3 : (j : Int) < P.length := by omega
              have hd : decide (y = y) = true := by simp
              clear hy e9 hkn hj hdr
              go_wp2_with fail
              go_quiet ((go_at_call 11; refine Calls.quiet_of (bytesEq_any ?_ ?_); exact hb9; exact hb8))
              go_wp2_with fail
              have hj := HJ.out
              go_roundg (gk - 1)
              case rel => exact ⟨j + 1, by omega, by go_num, HDr.out.more _⟩
              case measure => omega
            · have hjj : j = P.length := by omega
              subst hjj
              go_wp2_with fail
              have hk := HK.out
              go_roundg (S.length - (k + 1))
              case rel => exact ⟨k + 1, m', _, _, by omega, by go_num, rfl, rfl, rfl, HDr.out.inv HIe.out, hm'⟩
              case measure => omega
    · have hkk : k = S.length := by omega
      subst hkk
      have hkl : (kn P (DD S S.length)).length ≤ 5000 := by have := DD_len S S.length (Nat.le_refl _); unfold kn; split <;> (try simp) <;> omega
      have hkn : P.length ≤ (kn P (DD S S.length)).length := by unfold kn; split <;> (try simp)
      have hkn' : ¬ (((kn P (DD S S.length)).length : Int) < P.length) := by omega
      obtain ⟨a6, c6, hv6, hc6, hls6⟩ := hI.st.row.shape (kn_small HsP.out (by omega) (DD_small HsS.out S.length (by omega)))
      cases hv6
      have hLe := hls6 wo (Kept.refl _)
      have hlPe := hlP.below hI.below
      have HBo : Hid (Below w.heap.size w wo) := HB2.out.trans (hI.below.mono HB2.out.size)
      clear hls6 hI hm
      go_wp2_with fail
      go_loopg [17] P.length (fun g j wr => ∃ (j' : Nat), j' + g = P.length ∧ j = .int .i64 j' ∧ Drawn wo wr)
      case atStart => exact ⟨0, by omega, rfl, 0, rfl⟩
      case round =>
        obtain ⟨j, hj, rfl, hdr⟩ := hrel
        have HDr : Hid (Drawn wo wr) := hdr
        by_cases hjk : j < P.length
        · obtain ⟨b9, o9, he9, a9, c9, hc9, hb9⟩ := (hdr.ls hLe).at (i := j) (by omega)
          subst he9
          obtain ⟨b8, o8, he8, a8, c8, hc8, hb8⟩ := (hdr.ls hlPe).at (i := j) hjk
          subst he8
          have e9 : (kn P (DD S S.length)).getD j [] = P.getD j [] := by
            unfold kn; split
            · simp only [List.getD, List.getElem?_append_left hjk]
            · rfl
          rw [e9] at hc9 hb9
          obtain ⟨y, hy⟩ : ∃ y, y = P.getD j [] := ⟨_, rfl⟩
          rw [← hy] at hc9 hb9 hc8 hb8
          have HJ : Hid (j + gk = P.length) := hj
          have hx1 : (j : Int) < (kn P (DD S S.length)).length := by omega
          have hx3 : (j : Int) < P.length := by omega
          have hd : decide (y = y) = true := by simp
          clear hy e9 hkn hj hdr
          go_wp2_with fail
          go_quiet ((go_at_call 11; refine Calls.quiet_of (bytesEq_any ?_ ?_); exact hb9; exact hb8))
          go_wp2_with fail
          have hj := HJ.out
          go_roundg (gk - 1)
          case rel => exact ⟨j + 1, by omega, by go_num, HDr.out.more _⟩
          case measure => omega
        · go_wp2_with fail
          go_ret
          exact ⟨rfl, HBo.out.trans (HDr.out.below.mono HBo.out.size)⟩
end Go.Proofs.Qxb6601109a
