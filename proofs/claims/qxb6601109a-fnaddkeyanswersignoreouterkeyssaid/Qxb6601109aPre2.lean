import Derived.Test.Qxb6601109aTwo
import Derived.Test.Qxb6601109aPre
namespace Go.Proofs.Qxb6601109a
open Go.RowKit Go.Maps

theorem Drawn.two {W w w' : World} {P1 D1 P2 D2 : List (List UInt8)} {cb1 cb2 : Nat} {v1 v2 : Value} {m1 m2 : Option Nat} (hd : Drawn w w') (h : Two W w P1 D1 P2 D2 cb1 cb2 v1 v2 m1 m2) : Two W w' P1 D1 P2 D2 cb1 cb2 v1 v2 m1 m2 := h.after hd.below

set_option maxHeartbeats 1000000 in
set_option maxRecDepth 100000 in
theorem law2_walk (a1 a2 : Option Addr) (c1 c2 : Nat) (P S : List (List UInt8)) (w : World) (h1 : LS w a1 P) (h2 : LS w a2 S) :
    Calls Try.prog 4 #[.slice a1 P.length c1, .slice a2 S.length c2] w (Good w) := by
  have hm1 := h1.1
  have hm2 := h2.1
  by_cases hbig : 4096 < (P.length : Int) ∨ 4096 < (S.length : Int)
  · go_enter Try.func4, Try.ntmps4
    go_wp2_with fail
    refine (zzBytes2_walk a1 a2 _ _ c1 c2 w hm1 hm2 h1.cells h2.cells).mono ?_
    rintro e w' ⟨⟨b, rfl⟩, hw⟩
    rw [hw]; clear hw w'
    cases b with
    | false =>
      go_wp2_with fail
      go_ret
      exact ⟨rfl, Below.refl _ _⟩
    | true =>
      rcases hbig with h | h
      · go_wp2_with fail
        go_ret
        exact ⟨rfl, Below.refl _ _⟩
      · by_cases h' : 4096 < (P.length : Int)
        · go_wp2_with fail
          go_ret
          exact ⟨rfl, Below.refl _ _⟩
        · go_wp2_with fail
          go_ret
          exact ⟨rfl, Below.refl _ _⟩
  have hP4 : (P.length : Int) ≤ 4096 := by omega
  have hS4 : (S.length : Int) ≤ 4096 := by omega
  go_enter Try.func4, Try.ntmps4
  go_wp2_with fail
  refine (zzBytes2_walk a1 a2 _ _ c1 c2 w hm1 hm2 h1.cells h2.cells).mono ?_
  rintro e w' ⟨⟨b, rfl⟩, hw⟩
  rw [hw]; clear hw w'
  cases b with
  | false =>
    go_wp2_with fail
    go_ret
    exact ⟨rfl, Below.refl _ _⟩
  | true =>
  go_wp2_with fail
  refine (budget_walk a1 P.length c1 (fun i => (P.getD i []).length) 1048576 _ hm1 (by omega) (by omega) h1.cells').mono ?_
  rintro e w' ⟨r, rfl, hw, hr1, hr2, hr3⟩
  rw [hw]; clear hw w'
  by_cases hr0 : r < 0
  · go_wp2_with fail
    go_ret
    exact ⟨rfl, Below.refl _ _⟩
  obtain ⟨hr4, hr5⟩ := hr3 (by omega)
  clear hr3
  have HsP : Hid (Small P) := Small.of (by omega) hr4 hr5 (by omega)
  clear hr4 hr5
  go_wp2_with fail
  refine (budget_walk a2 S.length c2 (fun i => (S.getD i []).length) r _ hm2 (by omega) (by omega) h2.cells').mono ?_
  rintro e w' ⟨r2, rfl, hw, hr21, hr22, hr23⟩
  rw [hw]; clear hw w'
  by_cases hr20 : r2 < 0
  · go_wp2_with fail
    go_ret
    exact ⟨rfl, Below.refl _ _⟩
  obtain ⟨hr4, hr5⟩ := hr23 (by omega)
  clear hr23
  have HsS : Hid (Small S) := Small.of (by omega) hr4 hr5 (by omega)
  clear hr4 hr5
  go_wp2_with fail
  refine (cloneList_any (by omega) HsP.out h1).mono ?_
  rintro e w1 ⟨ap, cp, rfl, hrow1, hb1⟩
  go_wp2_with fail
  refine (cloneList_any (by omega) HsS.out (h2.below hb1)).mono ?_
  rintro e w2 ⟨asq, csq, rfl, hrow2, hb2⟩
  obtain ⟨_, _, he, _, hls1⟩ := hrow1.shape HsP.out
  cases he
  obtain ⟨_, _, he, _, hls2⟩ := hrow2.shape HsS.out
  cases he
  have hlP : LS w2 ap P := (hls1 w1 (Kept.refl _)).below hb2
  have hlS : LS w2 asq S := hls2 w2 (Kept.refl _)
  have HB2 : Hid (Below w.heap.size w w2) := hb1.trans (hb2.mono hb1.size)
  clear hls1 hls2 hrow1 hrow2 hb1 hb2 h1 h2
  go_wp2_with fail
  refine (cloneList_any (by omega) HsP.out hlP).mono ?_
  rintro e w3 ⟨ak, ck, rfl, hrow3, hb3⟩
  go_wp2_with fail
  refine (newObject_walk _ _).mono ?_
  rintro e w4 ⟨rfl, hw4⟩
  rw [hw4]; clear hw4 w4
  go_wp2_with fail
  refine (newObject_walk _ _).mono ?_
  rintro e w4 ⟨rfl, hw4⟩
  rw [hw4]; clear hw4 w4
  have hTwo : Two w2 ((w3.alloc (.cells (ctr P.length (.map none)) 38)).alloc (.cells (ctr (([] : List (List UInt8)).length : Nat) (.map none)) 38)) P (DD S 0) [] (DD S 0) w3.heap.size (w3.heap.size + 1) (.slice ak P.length ck) (.slice none 0 0) none none := by
    have hba : Below w3.heap.size w3 ((w3.alloc (.cells (ctr P.length (.map none)) 38)).alloc (.cells (ctr (([] : List (List UInt8)).length : Nat) (.map none)) 38)) := ((Below.refl _ _).alloc (Nat.le_refl _) _).alloc (by simp) _
    have hcbe : ((w3.alloc (.cells (ctr P.length (.map none)) 38)).alloc (.cells (ctr (([] : List (List UInt8)).length : Nat) (.map none)) 38)).heap[w3.heap.size]? = some (.cells (ctr P.length (.map none)) 38 (0, 0)) := at_alloc (heap_alloc_new w3 _) _
    have hcbe2 : ((w3.alloc (.cells (ctr P.length (.map none)) 38)).alloc (.cells (ctr (([] : List (List UInt8)).length : Nat) (.map none)) 38)).heap[w3.heap.size + 1]? = some (.cells (ctr (([] : List (List UInt8)).length : Nat) (.map none)) 38 (0, 0)) := by
      have := heap_alloc_new (w3.alloc (.cells (ctr P.length (.map none)) 38)) (.cells (ctr (([] : List (List UInt8)).length : Nat) (.map none)) 38)
      simpa using this
    have e : P ++ DD S 0 = P := by simp [DD]
    refine ⟨⟨hcbe, Nat.le_trans hb3.size hba.size, .inl ⟨by simp [DD], rfl, ?_⟩⟩, ⟨hcbe2, Nat.le_trans hb3.size hba.size, .inl ⟨by simp [DD], rfl, ⟨[], World.ownsRow_nil _ _ _ _, fun i hi => by simp [DD] at hi⟩⟩⟩, hb3.trans (hba.mono hb3.size), by omega, fun g _ e => (by cases e), fun g hg => (by cases hg), hb3.size, by have := hb3.size; omega, fun g hg => (by cases hg), fun g hg => (by cases hg)⟩
    rw [e]
    exact hrow3.kept hba.size (below_kept hba)
  have HT : Hid (Two w2 ((w3.alloc (.cells (ctr P.length (.map none)) 38)).alloc (.cells (ctr (([] : List (List UInt8)).length : Nat) (.map none)) 38)) P (DD S 0) [] (DD S 0) w3.heap.size (w3.heap.size + 1) (.slice ak P.length ck) (.slice none 0 0) none none) := hTwo
  clear hTwo hrow3 hb3
  obtain ⟨cb, hcb⟩ : ∃ cb, cb = w3.heap.size := ⟨_, rfl⟩
  go_wp2_with fail
  rw [← hcb] at HT ⊢
  clear hcb
  go_loopg [6, 7, 10] S.length (fun g kv bv i wr => ∃ (k : Nat) (m1 m2 : Option Nat) (ak ab : Option Addr) (ck cbr : Nat), k + g = S.length ∧ i = .int .i64 k ∧ kv = .slice ak (kn P (DD S k)).length ck ∧ bv = .slice ab (kn [] (DD S k)).length cbr ∧ Two w2 wr P (DD S k) [] (DD S k) cb (cb + 1) kv bv m1 m2)
  case atStart => exact ⟨0, none, none, ak, none, ck, 0, by omega, rfl, by simp [kn, DD], by simp [kn, DD], HT.out⟩
  case round =>
    obtain ⟨k, m1, m2, ak, ab, ck, cbr, hk, rfl, rfl, rfl, hI⟩ := hrel
    clear HT
    rename World => wo
    by_cases hlt : k < S.length
    · obtain ⟨bs, os, hea, ax, cx, hcx, hbx⟩ := (hlS.below hI.below).at hlt
      subst hea
      obtain ⟨x, hx⟩ : ∃ x, x = S.getD k [] := ⟨_, rfl⟩
      rw [← hx] at hcx hbx
      have HX : Hid (x = S.getD k []) := hx
      have HI : Hid (Two w2 wo P (DD S k) [] (DD S k) cb (cb + 1) (.slice ak (kn P (DD S k)).length ck) (.slice ab (kn [] (DD S k)).length cbr) m1 m2) := hI
      have HK : Hid (k + gk = S.length) := hk
      have hk4 : k < 4096 := by omega
      have hkS : (k : Int) < S.length := by omega
      have hxl : x.length ≤ 1048576 := by have := HsS.out.at hlt; rw [hx]; exact this
      clear hx hI hk
      go_wp2_with fail
      refine (cloneBytes_own hbx hxl).mono ?_
      rintro e w5 ⟨a5, c5, rfl, ho5, hb5⟩
      have hT5 := HI.out.after hb5
      have hown5 : Own w5 w2.heap.size w5.heap.size (.slice a5 x.length c5) x := ho5.mono HI.out.below.size (Nat.le_refl _) (fun _ _ _ => rfl)
      clear ho5 hb5 hbx hcx HI
      go_wp2_with fail
      refine (step hT5.st1 hown5 HsP.out (by omega) (DD_small HsS.out k (by omega)) (by have := DD_len S k (by omega); omega) hxl).mono ?_
      rintro e w6 ⟨v', b, rfl, hsteps⟩
      obtain ⟨hbv, m1', hT6⟩ := hT5.step hsteps
      have hDs : nextD (DD S k) x = DD S (k + 1) := by rw [DD_succ S k hlt, HX.out]
      rw [hDs] at hT6
      have HDs : Hid (nextD (DD S k) x = DD S (k + 1)) := hDs
      obtain ⟨a6, c6, hv6, hc6, hls6⟩ := hT6.st1.row.shape (kn_small HsP.out (by omega) (DD_small HsS.out (k + 1) (by omega)))
      rw [hv6] at hT6
      obtain ⟨sb, hsb⟩ : ∃ sb, sb = decide (x ∈ DD S k) := ⟨_, rfl⟩
      rw [hbv, hv6, ← hsb]
      have HSB : Hid (sb = decide (x ∈ DD S k)) := hsb
      have HT6 : Hid (Two w2 w6 P (DD S (k + 1)) [] (DD S k) cb (cb + 1) (.slice a6 (kn P (DD S (k + 1))).length c6) (.slice ab (kn [] (DD S k)).length cbr) m1' m2) := hT6
      obtain ⟨_, _, he, ax2, cx2, hcx2, hbx2⟩ := (hlS.below hT6.below).at hlt
      cases he
      rw [← HX.out] at hcx2 hbx2
      clear hsteps hbv hv6 hT5 hown5 hls6 hT6 hsb hDs hc6
      go_wp2_with fail
      refine (cloneBytes_own hbx2 hxl).mono ?_
      rintro e w7 ⟨a7, c7, rfl, ho7, hb7⟩
      have hT7 := HT6.out.after hb7
      have hown7 : Own w7 w2.heap.size w7.heap.size (.slice a7 x.length c7) x := ho7.mono HT6.out.below.size (Nat.le_refl _) (fun _ _ _ => rfl)
      clear ho7 hb7 hbx2 hcx2 HT6
      go_wp2_with fail
      refine (step hT7.st2 hown7 (by exact ⟨by simp, fun x hx => by simp at hx⟩) (by simp) (DD_small HsS.out k (by omega)) (by have := DD_len S k (by omega); omega) hxl).mono ?_
      rintro e w8 ⟨v8, b8, rfl, hsteps⟩
      obtain ⟨hbv, m2', hT8⟩ := hT7.swap.step hsteps
      rw [HDs.out] at hT8
      obtain ⟨a8, c8, hv8, hc8, hls8⟩ := hT8.st1.row.shape (kn_small (by exact ⟨by simp, fun x hx => by simp at hx⟩) (by simp) (DD_small HsS.out (k + 1) (by omega)))
      rw [hv8] at hT8
      rw [hbv, hv8, ← HSB.out]
      have HT8 : Hid (Two w2 w8 P (DD S (k + 1)) [] (DD S (k + 1)) cb (cb + 1) (.slice a6 (kn P (DD S (k + 1))).length c6) (.slice a8 (kn [] (DD S (k + 1))).length c8) m1' m2') := hT8.swap
      have hL8 := hls8 w8 (Kept.refl _)
      have hL6 : LS w8 a6 (kn P (DD S (k + 1))) := by
        obtain ⟨_, _, hv, _, hl⟩ := hT8.st2.row.shape (kn_small HsP.out (by omega) (DD_small HsS.out (k + 1) (by omega)))
        cases hv
        exact hl _ (Kept.refl _)
      have hDl := DD_len S (k + 1) (by omega)
      have hkn : (kn P (DD S (k + 1))).length = P.length + (kn [] (DD S (k + 1))).length := by unfold kn; split <;> simp
      have hkn5 : (kn [] (DD S (k + 1))).length ≤ 5000 := by unfold kn; split <;> simp; omega
      have hne : (((kn P (DD S (k + 1))).length : Int) != (P.length : Int) + ((kn [] (DD S (k + 1))).length : Int)) = false := by simp; omega
      have hbb : (sb != sb) = false := by simp
      have HKN : Hid ((kn P (DD S (k + 1))).length = P.length + (kn [] (DD S (k + 1))).length) := hkn
      clear hsteps hbv hv8 hT7 hown7 hls8 hT8 hc8 hkn
      go_wp2_with fail
      go_loopg [13] (kn [] (DD S (k + 1))).length (fun g j wr => ∃ (j' : Nat), j' + g = (kn [] (DD S (k + 1))).length ∧ j = .int .i64 j' ∧ Drawn w8 wr)
      case atStart => exact ⟨0, by omega, rfl, 0, rfl⟩
      case round =>
        obtain ⟨j, hj, rfl, hdr⟩ := hrel
        have HDr : Hid (Drawn w8 wr) := hdr
        by_cases hjk : j < (kn [] (DD S (k + 1))).length
        · have hkn := HKN.out
          obtain ⟨b9, o9, he9, a9, c9, hc9, hb9⟩ := (hdr.ls hL6).at (i := P.length + j) (by omega)
          subst he9
          obtain ⟨b3, o3, he3, a3, c3, hc3, hb3⟩ := (hdr.ls hL8).at (i := j) hjk
          subst he3
          have e9 : (kn P (DD S (k + 1))).getD (P.length + j) [] = (kn [] (DD S (k + 1))).getD j [] := by
            unfold kn at hjk ⊢; split
            · simp [List.getD, List.getElem?_append_right]
            · rename_i h; rw [if_neg h] at hjk; simp at hjk
          rw [e9] at hc9 hb9
          obtain ⟨y, hy⟩ : ∃ y, y = (kn [] (DD S (k + 1))).getD j [] := ⟨_, rfl⟩
          rw [← hy] at hc9 hb9 hc3 hb3
          have HJ : Hid (j + gk = (kn [] (DD S (k + 1))).length) := hj
          have hx1 : (P.length : Int) + j < (kn P (DD S (k + 1))).length := by omega
          have hx3 : (j : Int) < (kn [] (DD S (k + 1))).length := by omega
          have hd : decide (y = y) = true := by simp
          clear hy e9 hkn hj hdr
          go_wp2_with fail
          go_quiet ((go_at_call 11; refine Calls.quiet_of (bytesEq_any ?_ ?_); exact hb9; exact hb3))
          go_wp2_with fail
          have hj := HJ.out
          go_roundg (gk - 1)
          case rel => exact ⟨j + 1, by omega, by go_num, HDr.out.more _⟩
          case measure => omega
        · go_wp2_with fail
          have hk := HK.out
          go_roundg (S.length - (k + 1))
          case rel => exact ⟨k + 1, m1', m2', _, _, _, _, by omega, by go_num, rfl, rfl, HDr.out.two HT8.out⟩
          case measure => omega
    · have hkk : k = S.length := by omega
      subst hkk
      have hkl : (kn P (DD S S.length)).length ≤ 5000 := by have := DD_len S S.length (Nat.le_refl _); unfold kn; split <;> (try simp) <;> omega
      have hkn : P.length ≤ (kn P (DD S S.length)).length := by unfold kn; split <;> (try simp)
      have hkn' : ¬ (((kn P (DD S S.length)).length : Int) < P.length) := by omega
      obtain ⟨a6, c6, hv6, hc6, hls6⟩ := hI.st1.row.shape (kn_small HsP.out (by omega) (DD_small HsS.out S.length (by omega)))
      cases hv6
      have hLe := hls6 wo (Kept.refl _)
      have hlPe := hlP.below hI.below
      have HBo : Hid (Below w.heap.size w wo) := HB2.out.trans (hI.below.mono HB2.out.size)
      clear hls6 hI
      go_wp2_with fail
      go_loopg [14] P.length (fun g j wr => ∃ (j' : Nat), j' + g = P.length ∧ j = .int .i64 j' ∧ Drawn wo wr)
      case atStart => exact ⟨0, by omega, rfl, 0, rfl⟩
      case round =>
        obtain ⟨j, hj, rfl, hdr⟩ := hrel
        have HDr : Hid (Drawn wo wr) := hdr
        by_cases hjk : j < P.length
        · obtain ⟨b9, o9, he9, a9, c9, hc9, hb9⟩ := (hdr.ls hLe).at (i := j) (by omega)
          subst he9
          obtain ⟨b8, o8, he8, a8, c8, hc8, hb8⟩ := (hdr.ls hlPe).at (i := j) hjk
          subst he8
          have e9 : (kn P (DD S S.length)).getD j [] = P.getD j [] := by
            unfold kn; split
            · simp only [List.getD, List.getElem?_append_left hjk]
            · rfl
          rw [e9] at hc9 hb9
          obtain ⟨y, hy⟩ : ∃ y, y = P.getD j [] := ⟨_, rfl⟩
          rw [← hy] at hc9 hb9 hc8 hb8
          have HJ : Hid (j + gk = P.length) := hj
          have hx1 : (j : Int) < (kn P (DD S S.length)).length := by omega
          have hx3 : (j : Int) < P.length := by omega
          have hd : decide (y = y) = true := by simp
          clear hy e9 hkn hj hdr
          go_wp2_with fail
          go_quiet ((go_at_call 11; refine Calls.quiet_of (bytesEq_any ?_ ?_); exact hb9; exact hb8))
          go_wp2_with fail
          have hj := HJ.out
          go_roundg (gk - 1)
          case rel => exact ⟨j + 1, by omega, by go_num, HDr.out.more _⟩
          case measure => omega
        · go_wp2_with fail
          go_ret
          exact ⟨rfl, HBo.out.trans (HDr.out.below.mono HBo.out.size)⟩
end Go.Proofs.Qxb6601109a
