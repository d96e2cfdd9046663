import Derived.Test.Qxb6604795aLaw6
namespace Go.Proofs.Qxb6604795a
open Go.RowKit Go.Maps

/-- Behind an add the name does not gain what it was given. -/
theorem no_gain {kind name about : ByteArray} {n : Nat} {S : Nat → ByteArray} {L : Nat → Nat} {X : Nat → Nat → ByteArray} {T : Nat → Int} {ch : Bool} {n' : Nat} {S' : Nat → ByteArray} {L' : Nat → Nat} {X' : Nat → Nat → ByteArray} {T' : Nat → Int}
    (h : AddRel kind name about n S L X T ch n' S' L' X' T') (hap : Apart n' S') : (∃ k, k < n' ∧ S' k = name) ∧ ∀ k, k < n' → S' k = name → ¬ Gains kind about (L' k) (X' k) := by
  rcases h with ⟨_, _, rfl, _, hnam, hlast, hX, _⟩ | ⟨k0, hk0, hs0, rfl, hS, halt⟩
  · refine ⟨⟨n, by omega, hnam⟩, fun k hk hs hG => ?_⟩
    obtain rfl : k = n := hap k n hk (by omega) (hs.trans hnam.symm)
    obtain ⟨_, hab, hno⟩ := hG
    rcases hlast with ⟨h, _⟩ | ⟨_, h⟩
    · exact hab h
    · exact hno 0 (by omega) (by rw [hX])
  · have hs0' : S' k0 = name := (hS k0 hk0).trans hs0
    refine ⟨⟨k0, hk0, hs0'⟩, fun k hk hs hG => ?_⟩
    obtain rfl : k = k0 := hap k k0 hk hk0 (hs.trans hs0'.symm)
    rcases halt with ⟨hn, _, hsame⟩ | ⟨_, _, _, hL, hX, _⟩
    · obtain ⟨h1, h2, _⟩ := hsame k hk
      rw [h1, h2] at hG
      exact hn hG
    · obtain ⟨_, _, hno⟩ := hG
      refine hno (L k) (by omega) ?_
      rw [hX]
      simp

/-- The same add again changes nothing. -/
theorem again {kind name about : ByteArray} {n' : Nat} {S' : Nat → ByteArray} {L' : Nat → Nat} {X' : Nat → Nat → ByteArray} {T' : Nat → Int} {ch2 : Bool} {n2 : Nat} {S2 : Nat → ByteArray} {L2 : Nat → Nat} {X2 : Nat → Nat → ByteArray} {T2 : Nat → Int}
    (hno : (∃ k, k < n' ∧ S' k = name) ∧ ∀ k, k < n' → S' k = name → ¬ Gains kind about (L' k) (X' k)) (h2 : AddRel kind name about n' S' L' X' T' ch2 n2 S2 L2 X2 T2) : ch2 = false ∧ n2 = n' ∧ (∀ i, i < n' → S2 i = S' i) ∧ ∀ i, i < n' → L2 i = L' i ∧ X2 i = X' i ∧ T2 i = T' i := by
  obtain ⟨⟨k, hk, hs⟩, hno⟩ := hno
  rcases h2 with ⟨h, _⟩ | ⟨k0, hk0, hs0, hn, hS, halt⟩
  · exact absurd hs (h k hk)
  · rcases halt with ⟨_, hc, hsame⟩ | ⟨hG, _⟩
    · exact ⟨hc, hn, hS, hsame⟩
    · exact absurd hG (hno k0 hk0 hs0)

theorem AddRel.lens {kind name about : ByteArray} {n : Nat} {S : Nat → ByteArray} {L : Nat → Nat} {X : Nat → Nat → ByteArray} {T : Nat → Int} {ch : Bool} {n' : Nat} {S' : Nat → ByteArray} {L' : Nat → Nat} {X' : Nat → Nat → ByteArray} {T' : Nat → Int} (h : AddRel kind name about n S L X T ch n' S' L' X' T') (hL : ∀ i, i < n → L i ≤ 65536) : ∀ i, i < n' → L' i ≤ 65537 := by
  intro i hi
  rcases h with ⟨_, _, rfl, h, _, hlast, _⟩ | ⟨k, hk, hs, rfl, _, halt⟩
  · by_cases hin : i < n
    · rw [(h i hin).2.1]; have := hL i hin; omega
    · obtain rfl : i = n := by omega
      rcases hlast with ⟨_, h⟩ | ⟨_, h⟩ <;> omega
  · rcases halt with ⟨_, _, hsame⟩ | ⟨_, _, hsame, hk1, _⟩
    · rw [(hsame i hi).1]; have := hL i hi; omega
    · by_cases hik : i = k
      · subst hik; have := hL i hi; omega
      · rw [(hsame i hi hik).1]; have := hL i hi; omega

theorem sameS_of {a a2 : Option Addr} {n c m c2 : Nat} {S T : Nat → ByteArray} {w : World} {b : Bool} (h : SS 0 w a n S) (h2 : SS 0 w a2 m T) (hp : (b = true) ↔ RowEq n S m T) :
    Calls Try.prog 28 #[.slice a n c, .slice a2 m c2] w fun e w' => e = .returned (.bool b) ∧ Drawn w w' := by
  refine (sameS_walk a a2 n c m c2 S T w h h2).mono ?_
  rintro e w' ⟨hd, ⟨hy, rfl⟩ | ⟨hn, rfl⟩⟩
  · exact ⟨by rw [hp.2 hy], hd⟩
  · refine ⟨?_, hd⟩
    cases b with
    | false => rfl
    | true => exact absurd (hp.1 rfl) hn
theorem sameL_no {a a2 : Option Addr} {n c m c2 : Nat} {R Q : Rows2} {w : World} (h : LS 0 w a n R) (h2 : LS 0 w a2 m Q) (hp : ¬ RowsEq n R m Q) :
    Calls Try.prog 29 #[.slice a n c, .slice a2 m c2] w fun e w' => e = .returned (.bool false) ∧ Drawn w w' := by
  refine (sameL_walk a a2 n c m c2 R Q w h h2).mono ?_
  rintro e w' ⟨hd, ⟨hn, _⟩ | ⟨_, rfl⟩⟩
  · exact absurd hn hp
  · exact ⟨rfl, hd⟩

set_option maxRecDepth 100000 in
set_option maxHeartbeats 1000000 in
theorem law7 {H : Type} (w : World) (a1 a2 a3 : Option Addr) (c1 c2 c3 n1 n2 n3 sz : Nat) (kind name about : ByteArray) (v : Value) (left : Int) (S : Nat → ByteArray) (R : Rows2) (T : Nat → Int) (f : ByteArray → Option Int)
    (h1 : SS 0 w a1 n1 S) (h2 : LS 0 w a2 n2 R) (h3 : IS 0 w a3 n3 T) (hm : MapArg H w v sz f) (hz : sz ≤ 9223372036854775807) (k1 : kind.size ≤ 9223372036854775807) (k2 : name.size ≤ 9223372036854775807) (k3 : about.size ≤ 9223372036854775807)
    (hS : ∀ i, i < n1 → (S i).size ≤ 9223372036854775807) (hX : ∀ i, i < n2 → ∀ j, j < R.L i → (R.X i j).size ≤ 9223372036854775807) :
    Calls Try.prog 7 #[.string kind, .slice a1 n1 c1, .slice a2 n2 c2, .slice a3 n3 c3, v, .int .i64 left, .string name, .string about] w (Good w) := by
  have hn1 := h1.1
  have hn2 := h2.1.1
  have hn3 := h3.1
  have hlen := hm.len
  by_cases q1 : (1048576 : Int) < kind.size
  · go_enter Try.func7, Try.ntmps7
    go_wp2_with fail
    go_ret
    exact ⟨rfl, Below.refl _ _⟩
  have q1' : decide ((1048576 : Int) < kind.size) = false := decide_eq_false q1
  by_cases q2 : (1048576 : Int) < n1
  · go_enter Try.func7, Try.ntmps7
    go_wp2_with fail
    go_ret
    exact ⟨rfl, Below.refl _ _⟩
  have q2' : decide ((1048576 : Int) < n1) = false := decide_eq_false q2
  by_cases q3 : (1048576 : Int) < n2
  · go_enter Try.func7, Try.ntmps7
    go_wp2_with fail
    go_ret
    exact ⟨rfl, Below.refl _ _⟩
  have q3' : decide ((1048576 : Int) < n2) = false := decide_eq_false q3
  by_cases q4 : (1048576 : Int) < n3
  · go_enter Try.func7, Try.ntmps7
    go_wp2_with fail
    go_ret
    exact ⟨rfl, Below.refl _ _⟩
  have q4' : decide ((1048576 : Int) < n3) = false := decide_eq_false q4
  by_cases q5 : (1048576 : Int) < name.size
  · go_enter Try.func7, Try.ntmps7
    go_wp2_with fail
    go_ret
    exact ⟨rfl, Below.refl _ _⟩
  have q5' : decide ((1048576 : Int) < name.size) = false := decide_eq_false q5
  by_cases q6 : (1048576 : Int) < about.size
  · go_enter Try.func7, Try.ntmps7
    go_wp2_with fail
    go_ret
    exact ⟨rfl, Below.refl _ _⟩
  have q6' : decide ((1048576 : Int) < about.size) = false := decide_eq_false q6
  by_cases q7 : sz = n1
  case neg =>
    have q7' : ((sz : Int) != (n1 : Int)) = true := by simp; omega
    go_enter Try.func7, Try.ntmps7
    go_wp2_with fail
    go_ret
    exact ⟨rfl, Below.refl _ _⟩
  have q7' : ((sz : Int) != (n1 : Int)) = false := by simp; omega
  go_enter Try.func7, Try.ntmps7
  go_wp2_with fail
  refine (listBytes_walk w a1 a2 a3 c1 c2 c3 n1 n2 n3 kind name about S R h1 h2 (by omega) (by omega) (by omega) (by omega) (by omega) (by omega) hS hX).mono ?_
  rintro e w' ⟨hw, z, rfl, hzz⟩
  rw [hw]; clear hw w' hlen q1' q2' q3' q4' q5' q6' q7' hS hX
  by_cases q8 : (1048576 : Int) < z
  · go_wp2_with fail
    go_ret
    exact ⟨rfl, Below.refl _ _⟩
  have q8' : decide ((1048576 : Int) < z) = false := decide_eq_false q8
  obtain ⟨hn16, hS, hL⟩ := hzz (by omega)
  clear hzz
  by_cases q9 : n2 = n1
  case neg =>
    have q9' : ((n2 : Int) != (n1 : Int)) = true := by simp; omega
    go_wp2_with fail
    go_ret
    exact ⟨rfl, Below.refl _ _⟩
  subst q9
  have q9' : ((n2 : Int) != (n2 : Int)) = false := by simp
  by_cases q10 : n3 = n2
  case neg =>
    have q10' : ((n3 : Int) != (n2 : Int)) = true := by simp; omega
    go_wp2_with fail
    go_ret
    exact ⟨rfl, Below.refl _ _⟩
  subst q10
  go_wp2_with fail
  refine (consistent_walk a1 n3 c1 S v sz f w h1 hS hz hm).mono ?_
  rintro e w' ⟨hw, ⟨hidx, rfl⟩ | ⟨_, rfl⟩⟩
  case inr =>
    rw [hw]; clear hw
    go_wp2_with fail
    go_ret
    exact ⟨rfl, Below.refl _ _⟩
  rw [hw]; clear hw w'
  have hap := hidx.apart
  clear hidx hm
  go_wp2_with fail
  refine (cloneS (by omega) h1).mono ?_
  rintro e w1 ⟨b1, rfl, s1, l1⟩
  go_wp2_with fail
  refine (cloneL (by omega) (fun i hi => by have := hL i hi; omega) (h2.keeps (Keeps.below l1))).mono ?_
  rintro e w2 ⟨b2, A2, rfl, s2, l2, _⟩
  go_wp2_with fail
  refine (cloneI (by omega) ((h3.keeps (Keeps.below l1)).keeps (Keeps.below l2))).mono ?_
  rintro e w3 ⟨b3, rfl, s3, l3, _⟩
  have s1' := (s1.mono (Nat.zero_le _)).keeps ((Keeps.below l2).trans (Keeps.below l3))
  go_wp2_with fail
  refine (indexOf_walk b1 n3 n3 S w3 s1' hn16 hS hap).mono ?_
  rintro e w4 ⟨rfl, ⟨F, hup, him⟩, l4⟩
  have s2' := s2.low.keeps ((Keeps.below l3).trans (Keeps.below l4))
  have s1w := s1'.keeps (Keeps.below l4)
  have s3w := (s3.mono (Nat.zero_le _)).keeps (Keeps.below l4)
  go_wp2_with fail
  refine (cloneS (by omega) s1w).mono ?_
  rintro e w4a ⟨f1, rfl, sf1, lf1⟩
  go_wp2_with fail
  refine (cloneL (by omega) (fun i hi => by have := hL i hi; show R.L i ≤ _; omega) (s2'.keeps (Keeps.below lf1))).mono ?_
  rintro e w4b ⟨f2, A5, rfl, sf2, lf2, _⟩
  go_wp2_with fail
  refine (cloneI (by omega) ((s3w.keeps (Keeps.below lf1)).keeps (Keeps.below lf2))).mono ?_
  rintro e w5 ⟨f3, rfl, sf3, lf3, _⟩
  have bw3 : Below w.heap.size w w3 := Below.up (Below.up l1 l2) l3
  have l45 : Below w4.heap.size w4 w5 := Below.up (Below.up lf1 lf2) lf3
  have bw5 : Below w.heap.size w w5 := Below.up (Below.up bw3 l4) l45
  have k45 := Keeps.below l45
  have hwm : w.heap.size ≤ w3.heap.size := bw3.size
  have hzz := zz_walk w5 f1 f2 f3 n3 n3 n3 w3.heap.size n3 n3 kind name about left S ⟨A5, R.L, R.L, R.X⟩ T F w.heap.size ((sf1.mono (Nat.zero_le _)).keeps ((Keeps.below lf2).trans (Keeps.below lf3))) (sf2.low.keeps (Keeps.below lf3)) (sf3.mono (Nat.zero_le _)) (him.kept (l45.block _ him.lt)) hup (by omega) (by omega) (fun i hi => by have := hL i hi; show R.L i ≤ _; omega) (by omega) (fun _ _ _ _ => rfl) bw5.size bw3.size
  go_wp2_with fail
  refine hzz.mono ?_
  clear hzz
  rintro e w6 ⟨ch, n', g1, g2, g3, S', R', T', F', nn', rfl, t1, t2, t3, him6, hnn', hn', hup', hrel, k6, bl6⟩
  have hS' := hrel.sizes (by omega) hS
  have hL' := hrel.lens hL
  have hng := no_gain hrel hup'.1.apart
  have bw6 : Below w.heap.size w w6 := bw5.trans bl6
  have k46 := k45.trans k6
  have p1 := s1w.keeps k46
  have p2 := s2'.keeps k46
  have p3 := s3w.keeps k46
  have hkk := beq_kind kind
  have hll : (left != left) = false := by simp
  clear h1 h2 h3 s1 s2 s3 s1' s2' s1w s3w him hup l1 l2 l3 l4 l45 lf1 lf2 lf3 sf1 sf2 sf3 k45 k46 bw3 bw5 k6 bl6 hap hn2 hn3 k1 k2 k3 hz q7 q8' q9' hS hn1
  rcases hrel with ⟨hno, hch, hn'', hsame, hnam, hlast, hXn, hTn⟩ | ⟨k, hk, hs, hn'', hSs, ⟨hG, hch, hsame⟩ | ⟨hG, hch, hsame, hLk, hXk, hTk⟩⟩
  · subst hch
    have hne : (false = true) ↔ RowEq n' S' n3 S := ⟨(fun h => by cases h), (fun h => by have := h.1; omega)⟩
    clear hsame hnam hlast hXn hTn hno hn''
    go_wp2_with fail
    refine (sameS_of (b := false) t1 p1 hne).mono ?_
    rintro e w7 ⟨rfl, KD⟩
    clear hne
    have nn1 : ((n' : Int) != (n' : Int)) = false := by simp
    go_wp2_with fail
    refine (consistent_yes (H := Unit) (t1.keeps KD.keeps) hS' (by omega) (.inr ⟨w3.heap.size, nn', rfl, him6.kept (KD.below.block _ him6.lt)⟩) hup'.1).mono ?_
    rintro e w' ⟨rfl, hw⟩
    rw [hw]; clear hw w'
    go_wp2_with fail
    refine (cloneS (by omega) (t1.keeps KD.keeps)).mono ?_
    rintro e x1 ⟨y1, rfl, z1, j1⟩
    go_wp2_with fail
    refine (cloneL (by omega) (fun i hi => by have := hL' i hi; omega) ((t2.keeps KD.keeps).keeps (Keeps.below j1))).mono ?_
    rintro e x2 ⟨y2, Y2, rfl, z2, j2, _⟩
    go_wp2_with fail
    refine (cloneI (by omega) (((t3.keeps KD.keeps).keeps (Keeps.below j1)).keeps (Keeps.below j2))).mono ?_
    rintro e x3 ⟨y3, rfl, z3, j3, _⟩
    have jj : Below w7.heap.size w7 x3 := Below.up (Below.up j1 j2) j3
    have kk : Keeps w6 x3 := KD.keeps.trans (Keeps.below jj)
    have bx3 : Below w.heap.size w x3 := Below.up (Below.up bw6 KD.below) jj
    have im3 := (him6.kept (KD.below.block _ him6.lt)).kept (jj.block _ (Nat.lt_of_lt_of_le him6.lt KD.below.size))
    have hz2 := zz_walk x3 g1 g2 g3 n' n' n' w3.heap.size n' nn' kind name about left S' R' T' F' w.heap.size (t1.keeps kk) (t2.keeps kk) (t3.keeps kk) im3 hup' (by omega) (by omega) (fun i hi => by have := hL' i hi; omega) (by omega) (fun k hk hs hG => absurd hG (hng.2 k hk hs)) bx3.size hwm
    go_wp2_with fail
    refine hz2.mono ?_
    clear hz2
    rintro e x6 ⟨ch2, n2', g1', g2', g3', S2, R2, T2, F2, nn2, rfl, t1', t2', t3', im6, _, _, hup2, hrel2, k6', bl6'⟩
    obtain ⟨hc2, hn2, hS2, hR2⟩ := again hng hrel2
    subst hc2 hn2
    clear hrel2
    have bx6 : Below w.heap.size w x6 := bx3.trans bl6'
    have s2S : RowEq n2' S2 n2' S' := ⟨rfl, hS2⟩
    have s2L : RowsEq n2' R2 n2' ⟨Y2, R'.L, R'.L, R'.X⟩ := ⟨rfl, fun i hi => ⟨(hR2 i hi).1, fun j _ => congrFun (hR2 i hi).2.1 j⟩⟩
    have s2T : ∀ i, i < n2' → T2 i = T' i := fun i hi => (hR2 i hi).2.2
    have hS2z : ∀ i, i < n2' → (S2 i).size ≤ 1048576 := fun i hi => by rw [hS2 i hi]; exact hS' i hi
    have kx : Keeps x1 x6 := ((Keeps.below j2).trans (Keeps.below j3)).trans k6'
    have v1 := (z1.mono (Nat.zero_le _)).keeps kx
    have v2 := (z2.low.keeps (Keeps.below j3)).keeps k6'
    have v3 := (z3.mono (Nat.zero_le _)).keeps k6'
    clear hS2 hR2
    go_wp2_with fail
    refine (sameS_yes t1' v1 s2S).mono ?_
    rintro e u1 ⟨rfl, q1, hu1⟩
    have d1 : Drawn x6 u1 := ⟨q1, hu1⟩
    clear hu1
    go_wp2_with fail
    refine (sameL_yes (t2'.keeps d1.keeps) (v2.keeps d1.keeps) s2L).mono ?_
    rintro e u2 ⟨rfl, d2⟩
    have d12 := d1.trans d2
    go_wp2_with fail
    refine (sameI_yes (t3'.keeps d12.keeps) (v3.keeps d12.keeps) ⟨by first | rfl | omega, s2T⟩).mono ?_
    rintro e u3 ⟨rfl, d3⟩
    have d13 := d12.trans d3
    go_wp2_with fail
    refine (consistent_yes (H := Unit) (t1'.keeps d13.keeps) hS2z (by omega) (.inr ⟨w3.heap.size, nn2, rfl, im6.kept (d13.below.block _ im6.lt)⟩) hup2.1).mono ?_
    rintro e u4 ⟨rfl, hu4⟩
    rw [hu4]; clear hu4
    go_wp2_with fail
    go_ret
    exact ⟨rfl, Below.up bx6 d13.below⟩
  · subst hch hn''
    have EQ1 : RowEq n' S' n' S := ⟨rfl, hSs⟩
    have EQ2 : RowsEq n' R' n' ⟨A2, R.L, R.L, R.X⟩ := ⟨rfl, fun i hi => ⟨(hsame i hi).1, fun j _ => congrFun (hsame i hi).2.1 j⟩⟩
    have EQ3 : ∀ i, i < n' → T' i = T i := fun i hi => (hsame i hi).2.2
    clear hsame hSs hs hG
    go_wp2_with fail
    refine (sameS_of (b := true) t1 p1 ⟨fun _ => EQ1, fun _ => rfl⟩).mono ?_
    rintro e w7 ⟨rfl, d7⟩
    go_wp2_with fail
    refine (sameL_yes (t2.keeps d7.keeps) (p2.keeps d7.keeps) EQ2).mono ?_
    rintro e w8 ⟨rfl, d8⟩
    have d78 := d7.trans d8
    go_wp2_with fail
    refine (sameI_yes (t3.keeps d78.keeps) (p3.keeps d78.keeps) ⟨by first | rfl | omega, EQ3⟩).mono ?_
    rintro e w9 ⟨rfl, d9⟩
    have KD := d78.trans d9
    have nn1 : ((n' : Int) != (n' : Int)) = false := by simp
    go_wp2_with fail
    refine (consistent_yes (H := Unit) (t1.keeps KD.keeps) hS' (by omega) (.inr ⟨w3.heap.size, nn', rfl, him6.kept (KD.below.block _ him6.lt)⟩) hup'.1).mono ?_
    rintro e w' ⟨rfl, hw⟩
    rw [hw]; clear hw w'
    go_wp2_with fail
    refine (cloneS (by omega) (t1.keeps KD.keeps)).mono ?_
    rintro e x1 ⟨y1, rfl, z1, j1⟩
    go_wp2_with fail
    refine (cloneL (by omega) (fun i hi => by have := hL' i hi; omega) ((t2.keeps KD.keeps).keeps (Keeps.below j1))).mono ?_
    rintro e x2 ⟨y2, Y2, rfl, z2, j2, _⟩
    go_wp2_with fail
    refine (cloneI (by omega) (((t3.keeps KD.keeps).keeps (Keeps.below j1)).keeps (Keeps.below j2))).mono ?_
    rintro e x3 ⟨y3, rfl, z3, j3, _⟩
    have jj : Below w9.heap.size w9 x3 := Below.up (Below.up j1 j2) j3
    have kk : Keeps w6 x3 := KD.keeps.trans (Keeps.below jj)
    have bx3 : Below w.heap.size w x3 := Below.up (Below.up bw6 KD.below) jj
    have im3 := (him6.kept (KD.below.block _ him6.lt)).kept (jj.block _ (Nat.lt_of_lt_of_le him6.lt KD.below.size))
    have hz2 := zz_walk x3 g1 g2 g3 n' n' n' w3.heap.size n' nn' kind name about left S' R' T' F' w.heap.size (t1.keeps kk) (t2.keeps kk) (t3.keeps kk) im3 hup' (by omega) (by omega) (fun i hi => by have := hL' i hi; omega) (by omega) (fun k hk hs hG => absurd hG (hng.2 k hk hs)) bx3.size hwm
    go_wp2_with fail
    refine hz2.mono ?_
    clear hz2
    rintro e x6 ⟨ch2, n2', g1', g2', g3', S2, R2, T2, F2, nn2, rfl, t1', t2', t3', im6, _, _, hup2, hrel2, k6', bl6'⟩
    obtain ⟨hc2, hn2, hS2, hR2⟩ := again hng hrel2
    subst hc2 hn2
    clear hrel2
    have bx6 : Below w.heap.size w x6 := bx3.trans bl6'
    have s2S : RowEq n2' S2 n2' S' := ⟨rfl, hS2⟩
    have s2L : RowsEq n2' R2 n2' ⟨Y2, R'.L, R'.L, R'.X⟩ := ⟨rfl, fun i hi => ⟨(hR2 i hi).1, fun j _ => congrFun (hR2 i hi).2.1 j⟩⟩
    have s2T : ∀ i, i < n2' → T2 i = T' i := fun i hi => (hR2 i hi).2.2
    have hS2z : ∀ i, i < n2' → (S2 i).size ≤ 1048576 := fun i hi => by rw [hS2 i hi]; exact hS' i hi
    have kx : Keeps x1 x6 := ((Keeps.below j2).trans (Keeps.below j3)).trans k6'
    have v1 := (z1.mono (Nat.zero_le _)).keeps kx
    have v2 := (z2.low.keeps (Keeps.below j3)).keeps k6'
    have v3 := (z3.mono (Nat.zero_le _)).keeps k6'
    clear hS2 hR2
    go_wp2_with fail
    refine (sameS_yes t1' v1 s2S).mono ?_
    rintro e u1 ⟨rfl, q1, hu1⟩
    have d1 : Drawn x6 u1 := ⟨q1, hu1⟩
    clear hu1
    go_wp2_with fail
    refine (sameL_yes (t2'.keeps d1.keeps) (v2.keeps d1.keeps) s2L).mono ?_
    rintro e u2 ⟨rfl, d2⟩
    have d12 := d1.trans d2
    go_wp2_with fail
    refine (sameI_yes (t3'.keeps d12.keeps) (v3.keeps d12.keeps) ⟨by first | rfl | omega, s2T⟩).mono ?_
    rintro e u3 ⟨rfl, d3⟩
    have d13 := d12.trans d3
    go_wp2_with fail
    refine (consistent_yes (H := Unit) (t1'.keeps d13.keeps) hS2z (by omega) (.inr ⟨w3.heap.size, nn2, rfl, im6.kept (d13.below.block _ im6.lt)⟩) hup2.1).mono ?_
    rintro e u4 ⟨rfl, hu4⟩
    rw [hu4]; clear hu4
    go_wp2_with fail
    go_ret
    exact ⟨rfl, Below.up bx6 d13.below⟩
  · subst hch hn''
    have EQ1 : RowEq n' S' n' S := ⟨rfl, hSs⟩
    have EQ2 : ¬ RowsEq n' R' n' ⟨A2, R.L, R.L, R.X⟩ := fun h => by
      have h1 : R'.L k = R.L k := (h.2 k hk).1
      have h2 : R'.L k = R.L k + 1 := hLk
      omega
    clear hsame hSs hs hG hLk hXk hTk
    go_wp2_with fail
    refine (sameS_of (b := true) t1 p1 ⟨fun _ => EQ1, fun _ => rfl⟩).mono ?_
    rintro e w7 ⟨rfl, d7⟩
    go_wp2_with fail
    refine (sameL_no (t2.keeps d7.keeps) (p2.keeps d7.keeps) EQ2).mono ?_
    rintro e w8 ⟨rfl, d8⟩
    have KD := d7.trans d8
    have nn1 : ((n' : Int) != (n' : Int)) = false := by simp
    go_wp2_with fail
    refine (consistent_yes (H := Unit) (t1.keeps KD.keeps) hS' (by omega) (.inr ⟨w3.heap.size, nn', rfl, him6.kept (KD.below.block _ him6.lt)⟩) hup'.1).mono ?_
    rintro e w' ⟨rfl, hw⟩
    rw [hw]; clear hw w'
    go_wp2_with fail
    refine (cloneS (by omega) (t1.keeps KD.keeps)).mono ?_
    rintro e x1 ⟨y1, rfl, z1, j1⟩
    go_wp2_with fail
    refine (cloneL (by omega) (fun i hi => by have := hL' i hi; omega) ((t2.keeps KD.keeps).keeps (Keeps.below j1))).mono ?_
    rintro e x2 ⟨y2, Y2, rfl, z2, j2, _⟩
    go_wp2_with fail
    refine (cloneI (by omega) (((t3.keeps KD.keeps).keeps (Keeps.below j1)).keeps (Keeps.below j2))).mono ?_
    rintro e x3 ⟨y3, rfl, z3, j3, _⟩
    have jj : Below w8.heap.size w8 x3 := Below.up (Below.up j1 j2) j3
    have kk : Keeps w6 x3 := KD.keeps.trans (Keeps.below jj)
    have bx3 : Below w.heap.size w x3 := Below.up (Below.up bw6 KD.below) jj
    have im3 := (him6.kept (KD.below.block _ him6.lt)).kept (jj.block _ (Nat.lt_of_lt_of_le him6.lt KD.below.size))
    have hz2 := zz_walk x3 g1 g2 g3 n' n' n' w3.heap.size n' nn' kind name about left S' R' T' F' w.heap.size (t1.keeps kk) (t2.keeps kk) (t3.keeps kk) im3 hup' (by omega) (by omega) (fun i hi => by have := hL' i hi; omega) (by omega) (fun k hk hs hG => absurd hG (hng.2 k hk hs)) bx3.size hwm
    go_wp2_with fail
    refine hz2.mono ?_
    clear hz2
    rintro e x6 ⟨ch2, n2', g1', g2', g3', S2, R2, T2, F2, nn2, rfl, t1', t2', t3', im6, _, _, hup2, hrel2, k6', bl6'⟩
    obtain ⟨hc2, hn2, hS2, hR2⟩ := again hng hrel2
    subst hc2 hn2
    clear hrel2
    have bx6 : Below w.heap.size w x6 := bx3.trans bl6'
    have s2S : RowEq n2' S2 n2' S' := ⟨rfl, hS2⟩
    have s2L : RowsEq n2' R2 n2' ⟨Y2, R'.L, R'.L, R'.X⟩ := ⟨rfl, fun i hi => ⟨(hR2 i hi).1, fun j _ => congrFun (hR2 i hi).2.1 j⟩⟩
    have s2T : ∀ i, i < n2' → T2 i = T' i := fun i hi => (hR2 i hi).2.2
    have hS2z : ∀ i, i < n2' → (S2 i).size ≤ 1048576 := fun i hi => by rw [hS2 i hi]; exact hS' i hi
    have kx : Keeps x1 x6 := ((Keeps.below j2).trans (Keeps.below j3)).trans k6'
    have v1 := (z1.mono (Nat.zero_le _)).keeps kx
    have v2 := (z2.low.keeps (Keeps.below j3)).keeps k6'
    have v3 := (z3.mono (Nat.zero_le _)).keeps k6'
    clear hS2 hR2
    go_wp2_with fail
    refine (sameS_yes t1' v1 s2S).mono ?_
    rintro e u1 ⟨rfl, q1, hu1⟩
    have d1 : Drawn x6 u1 := ⟨q1, hu1⟩
    clear hu1
    go_wp2_with fail
    refine (sameL_yes (t2'.keeps d1.keeps) (v2.keeps d1.keeps) s2L).mono ?_
    rintro e u2 ⟨rfl, d2⟩
    have d12 := d1.trans d2
    go_wp2_with fail
    refine (sameI_yes (t3'.keeps d12.keeps) (v3.keeps d12.keeps) ⟨by first | rfl | omega, s2T⟩).mono ?_
    rintro e u3 ⟨rfl, d3⟩
    have d13 := d12.trans d3
    go_wp2_with fail
    refine (consistent_yes (H := Unit) (t1'.keeps d13.keeps) hS2z (by omega) (.inr ⟨w3.heap.size, nn2, rfl, im6.kept (d13.below.block _ im6.lt)⟩) hup2.1).mono ?_
    rintro e u4 ⟨rfl, hu4⟩
    rw [hu4]; clear hu4
    go_wp2_with fail
    go_ret
    exact ⟨rfl, Below.up bx6 d13.below⟩
end Go.Proofs.Qxb6604795a
