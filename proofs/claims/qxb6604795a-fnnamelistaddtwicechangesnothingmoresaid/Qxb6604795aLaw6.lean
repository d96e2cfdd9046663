import Derived.Test.Qxb6604795aZZ
import Derived.Test.Qxb6604795aBytes
namespace Go.Proofs.Qxb6604795a
open Go.RowKit Go.Maps

/-- What a law answers. -/
def Good (w : World) (e : Ending) (w' : World) : Prop := e = .returned (.bool true) ∧ Below w.heap.size w w'

theorem sameL_yes {a a2 : Option Addr} {n c m c2 : Nat} {R Q : Rows2} {w : World} (h : LS 0 w a n R) (h2 : LS 0 w a2 m Q) (hp : RowsEq n R m Q) :
    Calls Try.prog 29 #[.slice a n c, .slice a2 m c2] w fun e w' => e = .returned (.bool true) ∧ Drawn w w' := by
  refine (sameL_walk a a2 n c m c2 R Q w h h2).mono ?_
  rintro e w' ⟨hd, ⟨_, rfl⟩ | ⟨hn, _⟩⟩
  · exact ⟨rfl, hd⟩
  · exact absurd hp hn
theorem sameI_yes {a a2 : Option Addr} {n c m c2 : Nat} {S T : Nat → Int} {w : World} (h : IS 0 w a n S) (h2 : IS 0 w a2 m T) (hp : n = m ∧ ∀ i, i < n → S i = T i) :
    Calls Try.prog 30 #[.slice a n c, .slice a2 m c2] w fun e w' => e = .returned (.bool true) ∧ Drawn w w' := by
  refine (sameI_walk a a2 n c m c2 S T w h h2).mono ?_
  rintro e w' ⟨hd, ⟨_, rfl⟩ | ⟨hn, _⟩⟩
  · exact ⟨rfl, hd⟩
  · exact absurd hp hn
theorem consistent_yes {H : Type} {a : Option Addr} {n c : Nat} {S : Nat → ByteArray} {v : Value} {sz : Nat} {f : ByteArray → Option Int} {w : World} (h : SS 0 w a n S) (hS : ∀ i, i < n → (S i).size ≤ 1048576) (hz : sz ≤ 9223372036854775807) (hm : MapArg H w v sz f) (hi : Idx n S sz f) :
    Calls Try.prog 20 #[.slice a n c, v] w fun e w' => e = .returned (.bool true) ∧ w' = w := by
  refine (consistent_walk a n c S v sz f w h hS hz hm).mono ?_
  rintro e w' ⟨hw, ⟨_, rfl⟩ | ⟨hn, _⟩⟩
  · exact ⟨rfl, hw⟩
  · exact absurd hi hn

theorem LS.low {lo : Nat} {w : World} {a : Option Addr} {n : Nat} {R : Rows2} (h : LS lo w a n R) : LS 0 w a n R := ⟨h.1, fun i hi => (h.2 i hi).mono (Nat.zero_le _)⟩
theorem CS.one {lo : Nat} {w : World} {a : Option Addr} {n : Nat} {f : Nat → Value} (h : CS lo w a n f) : CS lo w a (n * 1) f := by rw [Nat.mul_one]; exact h
theorem keeps_alloc (w : World) (o : Obj) : Keeps w (w.alloc o) := Keeps.below ((Below.refl _ _).alloc (Nat.le_refl _) _)
theorem below_alloc (w : World) (o : Obj) : Below w.heap.size w (w.alloc o) := (Below.refl _ _).alloc (Nat.le_refl _) _
theorem src_one (w : World) (u : Value) (t : TypeId) : ∀ j, j < 1 → (w.alloc (.cells #[u] t)).cell? ⟨w.heap.size, j, none⟩ = some ((fun _ => u) j) := by
  intro j hj
  obtain rfl : j = 0 := by omega
  have h0 : (w.alloc (.cells #[u] t)).heap[w.heap.size]? = some (.cells #[u] t (0, 0)) := heap_alloc_new w _
  rw [World.cell?]
  simp only [h0]
  rfl
theorem AddRel.sizes {kind name about : ByteArray} {n : Nat} {S : Nat → ByteArray} {L : Nat → Nat} {X : Nat → Nat → ByteArray} {T : Nat → Int} {ch : Bool} {n' : Nat} {S' : Nat → ByteArray} {L' : Nat → Nat} {X' : Nat → Nat → ByteArray} {T' : Nat → Int} (h : AddRel kind name about n S L X T ch n' S' L' X' T') (hn : name.size ≤ 1048576) (hS : ∀ i, i < n → (S i).size ≤ 1048576) : ∀ i, i < n' → (S' i).size ≤ 1048576 := by
  intro i hi
  rcases h with ⟨_, _, rfl, h, h2, _⟩ | ⟨k, hk, hs, rfl, h, _⟩
  · by_cases hin : i < n
    · rw [(h i hin).1]; exact hS i hin
    · obtain rfl : i = n := by omega
      rw [h2]; exact hn
  · rw [h i hi]; exact hS i hi
theorem has27_yes {a : Option Addr} {n c : Nat} {S : Nat → ByteArray} {s : ByteArray} {w : World} (h : SS 0 w a n S) (hk : ∃ k, k < n ∧ S k = s) : Calls Try.prog 27 #[.slice a n c, .string s] w fun e w' => e = .returned (.bool true) ∧ w' = w := by
  refine (has_walk a n c S s w h).mono ?_
  rintro e w' ⟨hw, ⟨_, _, _, rfl⟩ | ⟨hn, _⟩⟩
  · exact ⟨rfl, hw⟩
  · obtain ⟨k, h1, h2⟩ := hk
    exact absurd h2 (hn k h1)
theorem has27_no {a : Option Addr} {n c : Nat} {S : Nat → ByteArray} {s : ByteArray} {w : World} (h : SS 0 w a n S) (hk : ∀ j, j < n → S j ≠ s) : Calls Try.prog 27 #[.slice a n c, .string s] w fun e w' => e = .returned (.bool false) ∧ w' = w := by
  refine (has_walk a n c S s w h).mono ?_
  rintro e w' ⟨hw, ⟨k, h1, h2, _⟩ | ⟨hn, rfl⟩⟩
  · exact absurd h2 (hk k h1)
  · exact ⟨rfl, hw⟩
theorem cell_set_ne {w : World} {p q : Addr} {u v x : Value} (hp : w.cell? p = some u) (hq : w.cell? q = some v) (h : v ≠ u) : (w.setCell p x).cell? q = some v := by
  rw [World.cell?_setCell_other _ _ _ _ (by rintro rfl; rw [hp] at hq; injection hq with hq; exact h hq.symm)]
  exact hq
theorem CS.off {lo : Nat} {w : World} {a : Option Addr} {n : Nat} {f : Nat → Value} (h : CS lo w a n f) {p : Addr} {u : Value} (hp : w.cell? p = some u) (hne : ∀ i, i < n → f i ≠ u) (x : Value) : CS lo (w.setCell p x) a n f := by
  refine ⟨h.1, h.2.imp id ?_⟩
  rintro ⟨b, o, e, hl, hc⟩
  exact ⟨b, o, e, hl, fun i hi => cell_set_ne hp (hc i hi) (hne i hi)⟩
theorem CS.set {lo b o : Nat} {w : World} {n : Nat} {f : Nat → Value} (h : CS lo w (some ⟨b, o, none⟩) n f) {k : Nat} (hk : k < n) (x : Value) : CS lo (w.setCell ⟨b, o + k, none⟩ x) (some ⟨b, o, none⟩) n (fun i => if i = k then x else f i) := by
  refine ⟨h.1, h.2.imp id ?_⟩
  rintro ⟨b', o', e, hl, hc⟩
  cases e
  refine ⟨b, o, rfl, hl, fun i hi => ?_⟩
  by_cases hik : i = k
  · subst hik
    dsimp only
    rw [if_pos rfl]
    exact World.cell?_setCell_same _ _ _ (hc i hi)
  · dsimp only
    rw [if_neg hik, World.cell?_setCell_other _ _ _ _ (by intro e; injection e with _ e; omega)]
    exact hc i hi
theorem keeps_set {w0 w : World} (h : Keeps w0 w) {p : Addr} (hp : w0.heap.size ≤ p.block) (x : Value) : Keeps w0 (w.setCell p x) := fun q v hq => by
  have := World.block_lt_of_cell? _ _ hq
  exact (cell_setCell_other (by omega)).trans (h q v hq)
theorem beq_kind (k : ByteArray) : (k.toList == k.toList) = true := beq_self_eq_true _
theorem Below.up {w a b : World} (h : Below w.heap.size w a) (k : Below a.heap.size a b) : Below w.heap.size w b := h.trans (k.mono h.size)

set_option maxRecDepth 100000 in
set_option maxHeartbeats 1000000 in
theorem law6 {H : Type} (w : World) (a1 a2 a3 : Option Addr) (c1 c2 c3 n1 n2 n3 sz : Nat) (kind name about : ByteArray) (v : Value) (left : Int) (S : Nat → ByteArray) (R : Rows2) (T : Nat → Int) (f : ByteArray → Option Int)
    (h1 : SS 0 w a1 n1 S) (h2 : LS 0 w a2 n2 R) (h3 : IS 0 w a3 n3 T) (hm : MapArg H w v sz f) (hz : sz ≤ 9223372036854775807) (k1 : kind.size ≤ 9223372036854775807) (k2 : name.size ≤ 9223372036854775807) (k3 : about.size ≤ 9223372036854775807)
    (hS : ∀ i, i < n1 → (S i).size ≤ 9223372036854775807) (hX : ∀ i, i < n2 → ∀ j, j < R.L i → (R.X i j).size ≤ 9223372036854775807) :
    Calls Try.prog 6 #[.string kind, .slice a1 n1 c1, .slice a2 n2 c2, .slice a3 n3 c3, v, .int .i64 left, .string name, .string about] w (Good w) := by
  have hn1 := h1.1
  have hn2 := h2.1.1
  have hn3 := h3.1
  have hlen := hm.len
  by_cases q1 : (1048576 : Int) < kind.size
  · go_enter Try.func6, Try.ntmps6
    go_wp2_with fail
    go_ret
    exact ⟨rfl, Below.refl _ _⟩
  have q1' : decide ((1048576 : Int) < kind.size) = false := decide_eq_false q1
  by_cases q2 : (1048576 : Int) < n1
  · go_enter Try.func6, Try.ntmps6
    go_wp2_with fail
    go_ret
    exact ⟨rfl, Below.refl _ _⟩
  have q2' : decide ((1048576 : Int) < n1) = false := decide_eq_false q2
  by_cases q3 : (1048576 : Int) < n2
  · go_enter Try.func6, Try.ntmps6
    go_wp2_with fail
    go_ret
    exact ⟨rfl, Below.refl _ _⟩
  have q3' : decide ((1048576 : Int) < n2) = false := decide_eq_false q3
  by_cases q4 : (1048576 : Int) < n3
  · go_enter Try.func6, Try.ntmps6
    go_wp2_with fail
    go_ret
    exact ⟨rfl, Below.refl _ _⟩
  have q4' : decide ((1048576 : Int) < n3) = false := decide_eq_false q4
  by_cases q5 : (1048576 : Int) < name.size
  · go_enter Try.func6, Try.ntmps6
    go_wp2_with fail
    go_ret
    exact ⟨rfl, Below.refl _ _⟩
  have q5' : decide ((1048576 : Int) < name.size) = false := decide_eq_false q5
  by_cases q6 : (1048576 : Int) < about.size
  · go_enter Try.func6, Try.ntmps6
    go_wp2_with fail
    go_ret
    exact ⟨rfl, Below.refl _ _⟩
  have q6' : decide ((1048576 : Int) < about.size) = false := decide_eq_false q6
  by_cases q7 : sz = n1
  case neg =>
    have q7' : ((sz : Int) != (n1 : Int)) = true := by simp; omega
    go_enter Try.func6, Try.ntmps6
    go_wp2_with fail
    go_ret
    exact ⟨rfl, Below.refl _ _⟩
  have q7' : ((sz : Int) != (n1 : Int)) = false := by simp; omega
  go_enter Try.func6, Try.ntmps6
  go_wp2_with fail
  refine (listBytes_walk w a1 a2 a3 c1 c2 c3 n1 n2 n3 kind name about S R h1 h2 (by omega) (by omega) (by omega) (by omega) (by omega) (by omega) hS hX).mono ?_
  rintro e w' ⟨hw, z, rfl, hzz⟩
  rw [hw]; clear hw w' hlen q1' q2' q3' q4' q5' q6' q7' hS hX
  by_cases q8 : (1048576 : Int) < z
  · go_wp2_with fail
    go_ret
    exact ⟨rfl, Below.refl _ _⟩
  have q8' : decide ((1048576 : Int) < z) = false := decide_eq_false q8
  obtain ⟨hn16, hS, hL⟩ := hzz (by omega)
  clear hzz
  by_cases q9 : n2 = n1
  case neg =>
    have q9' : ((n2 : Int) != (n1 : Int)) = true := by simp; omega
    go_wp2_with fail
    go_ret
    exact ⟨rfl, Below.refl _ _⟩
  subst q9
  have q9' : ((n2 : Int) != (n2 : Int)) = false := by simp
  by_cases q10 : n3 = n2
  case neg =>
    have q10' : ((n3 : Int) != (n2 : Int)) = true := by simp; omega
    go_wp2_with fail
    go_ret
    exact ⟨rfl, Below.refl _ _⟩
  subst q10
  go_wp2_with fail
  refine (consistent_walk a1 n3 c1 S v sz f w h1 hS hz hm).mono ?_
  rintro e w' ⟨hw, ⟨hidx, rfl⟩ | ⟨_, rfl⟩⟩
  case inr =>
    rw [hw]; clear hw
    go_wp2_with fail
    go_ret
    exact ⟨rfl, Below.refl _ _⟩
  rw [hw]; clear hw w'
  have hap := hidx.apart
  clear hidx hm
  go_wp2_with fail
  refine (cloneS (by omega) h1).mono ?_
  rintro e w1 ⟨b1, rfl, s1, l1⟩
  go_wp2_with fail
  refine (cloneL (by omega) (fun i hi => by have := hL i hi; omega) (h2.keeps (Keeps.below l1))).mono ?_
  rintro e w2 ⟨b2, A2, rfl, s2, l2, _⟩
  go_wp2_with fail
  refine (cloneI (by omega) ((h3.keeps (Keeps.below l1)).keeps (Keeps.below l2))).mono ?_
  rintro e w3 ⟨b3, rfl, s3, l3, _⟩
  have s1' := (s1.mono (Nat.zero_le _)).keeps ((Keeps.below l2).trans (Keeps.below l3))
  go_wp2_with fail
  refine (indexOf_walk b1 n3 n3 S w3 s1' hn16 hS hap).mono ?_
  rintro e w4 ⟨rfl, ⟨F, hup, him⟩, l4⟩
  have s2' := s2.low.keeps ((Keeps.below l3).trans (Keeps.below l4))
  go_wp2_with fail
  refine (cloneL (by omega) (fun i hi => by have := hL i hi; show R.L i ≤ _; omega) s2').mono ?_
  rintro e w5 ⟨b5, A5, rfl, s5, l5, _⟩
  have k35 := (Keeps.below l4).trans (Keeps.below l5)
  have s1'' := s1'.keeps k35
  have s3'' := (s3.mono (Nat.zero_le _)).keeps k35
  have bw3 : Below w.heap.size w w3 := Below.up (Below.up l1 l2) l3
  have bw5 : Below w.heap.size w w5 := Below.up (Below.up bw3 l4) l5
  have hzz := zz_walk w5 b1 b5 b3 n3 n3 n3 w3.heap.size n3 n3 kind name about left S ⟨A5, R.L, R.L, R.X⟩ T F w.heap.size s1'' s5.low s3'' (him.kept (l5.block _ him.lt)) hup (by omega) (by omega) (fun i hi => by have := hL i hi; show R.L i ≤ _; omega) (by omega) (fun _ _ _ _ => rfl) bw5.size bw3.size
  go_wp2_with fail
  refine hzz.mono ?_
  clear hzz
  rintro e w6 ⟨ch, n', g1, g2, g3, S', R', T', F', nn', rfl, t1, t2, t3, him6, hnn', hn', hup', hrel, k6, bl6⟩
  have hS' := hrel.sizes (by omega) hS
  have bw6 : Below w.heap.size w w6 := bw5.trans bl6
  go_wp2_with fail
  refine (cloneS (by omega) (s1''.keeps k6)).mono ?_
  rintro e w7 ⟨b7, rfl, s7, l7⟩
  go_wp2_with fail
  refine (cloneL (by omega) (fun i hi => by have := hL i hi; show R.L i ≤ _; omega) ((s2'.keeps ((Keeps.below l5).trans k6)).keeps (Keeps.below l7))).mono ?_
  rintro e w8 ⟨b8, A8, rfl, s8, l8, fr8⟩
  go_wp2_with fail
  refine (cloneI (by omega) ((s3''.keeps k6).keeps ((Keeps.below l7).trans (Keeps.below l8)))).mono ?_
  rintro e w9 ⟨b9, rfl, s9, l9, fr9⟩
  have k79 := (Keeps.below l8).trans (Keeps.below l9)
  have k69 := (Keeps.below l7).trans k79
  have s7' := (s7.mono (Nat.zero_le _)).keeps k79
  have s8' := s8.low.keeps (Keeps.below l9)
  have s9' := s9.mono (Nat.zero_le _)
  have bw9 : Below w.heap.size w w9 := Below.up (Below.up (Below.up bw6 l7) l8) l9
  have l69 : Below w6.heap.size w6 w9 := Below.up (Below.up l7 l8) l9
  have hm6 := him6.lt
  have hkk := beq_kind kind
  have hll : (left != left) = false := by simp
  clear h1 h2 h3 s1 s2 s3 s1' s2' s1'' s3'' s5 him hup l1 l2 l3 l4 l5 k35 bw3 bw5 k6 bl6 s7 s8 s9 hn2 hn3 k1 k2 k3 hz q7 q8' q9'
  go_wp2_with fail
  refine (find_walk b7 n3 n3 S name w9 s7').mono ?_
  rintro e w' ⟨hw, ⟨k, hk, hs, hfirst, rfl⟩ | ⟨hno, rfl⟩⟩
  case inr =>
    rw [hw]; clear hw w'
    rcases hrel with ⟨_, hch, hn'', hsame, hnam, hlast, hXn, hTn⟩ | ⟨k, hk, hs, _⟩
    case inr => exact absurd hs (hno k hk)
    subst hch hn''
    obtain ⟨i9, hi9, hz90, hz91, hz92⟩ := info_parts Try.info9
    obtain ⟨i35, hi35, hz350, hz351, hz352⟩ := info_parts Try.info35
    obtain ⟨i3, hi3, hz30, hz31, hz32⟩ := info_parts Try.info3
    rcases Decidable.em (about = ByteArray.empty) with hab | hab
    case' inl =>
      have hbb : (about.toList == []) = true := by rw [hab, empty_list]; rfl
      have HAB : Hid (about = ByteArray.empty) := hab
      clear hab
      obtain ⟨A1, hA1⟩ : ∃ A1 : Option Addr, A1 = none := ⟨_, rfl⟩
      obtain ⟨L1, hL1⟩ : ∃ L1, L1 = 0 := ⟨_, rfl⟩
      have hV : Value.slice A1 L1 L1 = .slice none 0 0 := by rw [hA1, hL1]
      obtain ⟨W9, hW9⟩ : ∃ W9, W9 = w9 := ⟨_, rfl⟩
      have l9W : Below w9.heap.size w9 W9 := by rw [hW9]; exact Below.refl _ _
      have hA : SS 0 W9 A1 L1 (fun _ => about) := ⟨by omega, .inl hL1⟩
      have hLe : L1 = R'.L n3 := by
        rcases hlast with ⟨_, h⟩ | ⟨h, _⟩
        · rw [h]; exact hL1
        · exact absurd HAB.out h
      have HVH : Hid (Value.slice A1 L1 L1 = _) := hV
      have HLE : Hid (L1 = R'.L n3) := hLe
      have HNAM : Hid (S' n3 = name) := hnam
      have HXN : Hid (R'.X n3 = fun _ => about) := hXn
      have HTN : Hid (T' n3 = 0) := hTn
      clear hA1 hL1 hV hLe hnam hXn hTn hlast
      go_upto_region 24 with fail
      show Code.wp _ _ _ _ w9
      rw [← hW9]
    case' inr =>
      have hbb : (about.toList == []) = false := by have := beq_lists_ne hab; rw [empty_list] at this; exact this
      have HAB : Hid (about ≠ ByteArray.empty) := hab
      clear hab
      obtain ⟨A1, hA1⟩ : ∃ A1 : Option Addr, A1 = some ⟨w9.heap.size, 0, none⟩ := ⟨_, rfl⟩
      obtain ⟨L1, hL1⟩ : ∃ L1, L1 = 1 := ⟨_, rfl⟩
      have hV : Value.slice A1 L1 L1 = .slice (some ⟨w9.heap.size, 0, none⟩) 1 1 := by rw [hA1, hL1]
      obtain ⟨W9, hW9⟩ : ∃ W9, W9 = w9.alloc (.cells #[.string about] 9) := ⟨_, rfl⟩
      have l9W : Below w9.heap.size w9 W9 := by rw [hW9]; exact below_alloc _ _
      have hA : SS 0 W9 A1 L1 (fun _ => about) := by
        rw [hW9, hA1, hL1]
        refine ⟨by omega, .inr ⟨_, 0, rfl, Nat.zero_le _, fun i hi => ?_⟩⟩
        rw [Nat.zero_add]
        exact src_one w9 (.string about) 9 i hi
      have hLe : L1 = R'.L n3 := by
        rcases hlast with ⟨h, _⟩ | ⟨_, h⟩
        · exact absurd h HAB.out
        · rw [h]; exact hL1
      have HVH : Hid (Value.slice A1 L1 L1 = _) := hV
      have HLE : Hid (L1 = R'.L n3) := hLe
      have HNAM : Hid (S' n3 = name) := hnam
      have HXN : Hid (R'.X n3 = fun _ => about) := hXn
      have HTN : Hid (T' n3 = 0) := hTn
      clear hA1 hL1 hV hLe hnam hXn hTn hlast
      go_upto_region 24 with fail
      show Code.wp _ _ _ _ (w9.alloc (.cells #[.string about] 9))
      rw [← hW9]
    all_goals
      have s7W := s7'.keeps (Keeps.below l9W)
      have s8W := s8'.keeps (Keeps.below l9W)
      have s9W := s9'.keeps (Keeps.below l9W)
      clear hW9 hbb s7' s8' s9' fr8 fr9
      go_wp2_with (at_builtin; first
        | (refine wpList_append_one _ rfl (.tmp 132) (.tmp 134) 35 rfl 9 i9 _ 1 16 Try.underlying35 hi9 hz90 hz91 hz92 (by omega) b7 n3 0 (fun i => .string (S i)) rfl (s7W.keeps (keeps_alloc W9 (.cells #[.string name] 9))).one _ _ rfl (src_one W9 (.string name) 9) (by omega) (by omega) ?_; intro c10 w10 x10 l10)
        | (refine wpList_append_one _ rfl (.tmp 136) (.tmp 138) 36 rfl 35 i35 _ 1 24 Try.underlying36 hi35 hz350 hz351 hz352 (by omega) b8 n3 0 _ rfl (((s8W.1.keeps (keeps_alloc W9 (.cells #[.string name] 9))).keeps (Keeps.below l10)).keeps (keeps_alloc w10 _)).one _ _ rfl (src_one w10 _ 35) (by omega) (by omega) ?_; intro c11 w11 x11 l11)
        | (refine wpList_append_one _ rfl (.tmp 140) (.tmp 141) 25 rfl 3 i3 _ 1 8 Try.underlying25 hi3 hz30 hz31 hz32 (by omega) b9 n3 0 (fun i => .int .i64 (T i)) rfl (((((s9W.keeps (keeps_alloc W9 (.cells #[.string name] 9))).keeps (Keeps.below l10)).keeps (keeps_alloc w10 _)).keeps (Keeps.below l11)).keeps (keeps_alloc w11 (.cells #[.int .i64 0] 3))).one _ _ rfl (src_one w11 (.int .i64 0) 3) (by omega) (by omega) ?_; intro c12 w12 x12 l12))
      have L10 : Below W9.heap.size W9 w10 := Below.up (below_alloc W9 _) l10
      have L11 : Below w10.heap.size w10 w11 := Below.up (below_alloc w10 _) l11
      have L12 : Below w11.heap.size w11 w12 := Below.up (below_alloc w11 _) l12
      have LW : Below W9.heap.size W9 w12 := Below.up (Below.up L10 L11) L12
      have K6 : Keeps w6 w12 := (k69.trans (Keeps.below l9W)).trans (Keeps.below LW)
      have P1 := t1.keeps K6
      have P3 := t2.keeps K6
      have P5 := t3.keeps K6
      have L6 : Below w6.heap.size w6 w12 := Below.up (Below.up l69 l9W) LW
      have P7 := him6.kept (L6.block _ hm6)
      have PB : Below w.heap.size w w12 := Below.up (Below.up bw9 l9W) LW
      have e10 : (W9.alloc (.cells #[.string name] 9)).heap.size = W9.heap.size + 1 := by simp
      have e11 : ∀ o, (w10.alloc o).heap.size = w10.heap.size + 1 := fun o => by simp
      have e12 : ∀ o, (w11.alloc o).heap.size = w11.heap.size + 1 := fun o => by simp
      rw [Nat.mul_one, Nat.mul_one] at x10 x11 x12
      rw [e10] at x10
      rw [e11] at x11
      rw [e12] at x12
      have P2 : SS 0 w12 (some ⟨W9.heap.size + 1, 0, none⟩) (n3 + 1) (fun i => if i < n3 then S i else name) :=
        ((x10.mono (Nat.zero_le _)).congr (fun i hi => by by_cases hin : i < n3 <;> simp [hin])).keeps ((Keeps.below L11).trans (Keeps.below L12))
      have P4 : LS 0 w12 (some ⟨w10.heap.size + 1, 0, none⟩) (n3 + 1) ⟨fun i => if i < n3 then A8 i else A1, fun i => if i < n3 then R.L i else L1, fun i => if i < n3 then R.L i else L1, fun i => if i < n3 then R.X i else fun _ => about⟩ := by
        refine ⟨((x11.mono (Nat.zero_le _)).congr (fun i hi => ?_)).keeps (Keeps.below L12), fun i hi => ?_⟩
        · by_cases hin : i < n3
          · simp [hin, Rows2.v]
          · simp only [hin, if_false, Rows2.v]
            exact HVH.out.symm
        · by_cases hin : i < n3
          · simp only [hin, if_true]
            exact (s8W.2 i hin).keeps (Keeps.below LW)
          · simp only [hin, if_false]
            exact hA.keeps (Keeps.below LW)
      have P6 : IS 0 w12 (some ⟨w11.heap.size + 1, 0, none⟩) (n3 + 1) (fun i => if i < n3 then T i else 0) :=
        (x12.mono (Nat.zero_le _)).congr (fun i hi => by by_cases hin : i < n3 <;> simp [hin])
      have EQ1 : RowEq (n3 + 1) S' (n3 + 1) (fun i => if i < n3 then S i else name) := ⟨rfl, fun i hi => by
        by_cases hin : i < n3
        · simp only [hin, if_true]; exact (hsame i hin).1
        · obtain rfl : i = n3 := by omega
          simp only [hin, if_false]; exact HNAM.out⟩
      have EQ2 : RowsEq (n3 + 1) R' (n3 + 1) ⟨fun i => if i < n3 then A8 i else A1, fun i => if i < n3 then R.L i else L1, fun i => if i < n3 then R.L i else L1, fun i => if i < n3 then R.X i else fun _ => about⟩ := ⟨rfl, fun i hi => by
        by_cases hin : i < n3
        · obtain ⟨_, h2, h3, _⟩ := hsame i hin
          simp only [hin, if_true]
          exact ⟨h2, fun j _ => congrFun h3 j⟩
        · obtain rfl : i = n3 := by omega
          simp only [hin, if_false]
          exact ⟨HLE.out.symm, fun j _ => congrFun HXN.out j⟩⟩
      have EQ3 : n3 + 1 = n3 + 1 ∧ ∀ i, i < n3 + 1 → T' i = (fun i => if i < n3 then T i else 0) i := ⟨rfl, fun i hi => by
        by_cases hin : i < n3
        · simp only [hin, if_true]; exact (hsame i hin).2.2.2
        · obtain rfl : i = n3 := by omega
          simp only [hin, if_false]; exact HTN.out⟩
      go_wp2_with fail
      refine (sameS_yes P1 P2 EQ1).mono ?_
      rintro e w13 ⟨rfl, q13, hw13⟩
      have d13 : Drawn w12 w13 := ⟨q13, hw13⟩
      clear hw13
      go_wp2_with fail
      refine (sameL_yes (P3.keeps d13.keeps) (P4.keeps d13.keeps) EQ2).mono ?_
      rintro e w14 ⟨rfl, d14⟩
      have d24 := d13.trans d14
      go_wp2_with fail
      refine (sameI_yes (P5.keeps d24.keeps) (P6.keeps d24.keeps) ⟨by first | rfl | omega, EQ3.2⟩).mono ?_
      rintro e w15 ⟨rfl, d15⟩
      have d25 := d24.trans d15
      go_wp2_with fail
      refine (consistent_yes (H := Unit) (P1.keeps d25.keeps) hS' (by omega) (.inr ⟨w3.heap.size, nn', rfl, P7.kept (d25.below.block _ P7.lt)⟩) hup'.1).mono ?_
      rintro e w16 ⟨rfl, hw16⟩
      rw [hw16]; clear hw16
      go_wp2_with fail
      go_ret
      exact ⟨rfl, Below.up PB d25.below⟩
  case inl =>
    rw [hw]; clear hw w' hfirst
    rcases hrel with ⟨hno, _⟩ | ⟨k', hk', hs', hn'', hSs, halt⟩
    · exact absurd hs (hno k hk)
    obtain rfl : k' = k := hap k' k hk' hk (hs'.trans hs.symm)
    subst hn''
    have hk0 : ¬ (k' : Int) < 0 := by omega
    have hkn : (k' : Int) < n' := by omega
    have EQ1 : RowEq n' S' n' S := ⟨rfl, hSs⟩
    obtain ⟨bA, oA, hb8, _, y8⟩ := s8'.1.at hk
    have r8 := s8'.2 k' hk
    dsimp only [Rows2.v] at y8 r8
    subst hb8
    clear hs hs' hk' hap
    rcases halt with ⟨hG, hch, hsame⟩ | ⟨hG, hch, hsame, hLk, hXk, hTk⟩
    · subst hch
      have P1 := t1.keeps k69
      have P3 := t2.keeps k69
      have P5 := t3.keeps k69
      have P2 := s7'
      have P4 := s8'
      have P6 := s9'
      have P7 := him6.kept (l69.block _ hm6)
      have PB := bw9
      have EQ2 : RowsEq n' R' n' ⟨A8, R.L, R.L, R.X⟩ := ⟨rfl, fun i hi => ⟨(hsame i hi).1, fun j _ => congrFun (hsame i hi).2.1 j⟩⟩
      have EQ3 : n' = n' ∧ ∀ i, i < n' → T' i = T i := ⟨rfl, fun i hi => (hsame i hi).2.2⟩
      cases hf : isFile kind with
      | false =>
        have hf2 := hf
        rw [isFile] at hf2
        clear hsame
        go_wp2_with fail
        refine (sameS_yes P1 P2 EQ1).mono ?_
        rintro e w13 ⟨rfl, q13, hw13⟩
        have d13 : Drawn w9 w13 := ⟨q13, hw13⟩
        clear hw13
        go_wp2_with fail
        refine (sameL_yes (P3.keeps d13.keeps) (P4.keeps d13.keeps) EQ2).mono ?_
        rintro e w14 ⟨rfl, d14⟩
        have d24 := d13.trans d14
        go_wp2_with fail
        refine (sameI_yes (P5.keeps d24.keeps) (P6.keeps d24.keeps) ⟨by first | rfl | omega, EQ3.2⟩).mono ?_
        rintro e w15 ⟨rfl, d15⟩
        have d25 := d24.trans d15
        go_wp2_with fail
        refine (consistent_yes (H := Unit) (P1.keeps d25.keeps) hS' (by omega) (.inr ⟨w3.heap.size, nn', rfl, P7.kept (d25.below.block _ P7.lt)⟩) hup'.1).mono ?_
        rintro e w16 ⟨rfl, hw16⟩
        rw [hw16]; clear hw16
        go_wp2_with fail
        go_ret
        exact ⟨rfl, Below.up PB d25.below⟩
      | true =>
        by_cases hab : about = ByteArray.empty
        · have hf2 := hf
          rw [isFile] at hf2
          have hbb : (about.toList == []) = true := by rw [hab, empty_list]; rfl
          clear hsame hab
          go_wp2_with fail
          refine (sameS_yes P1 P2 EQ1).mono ?_
          rintro e w13 ⟨rfl, q13, hw13⟩
          have d13 : Drawn w9 w13 := ⟨q13, hw13⟩
          clear hw13
          go_wp2_with fail
          refine (sameL_yes (P3.keeps d13.keeps) (P4.keeps d13.keeps) EQ2).mono ?_
          rintro e w14 ⟨rfl, d14⟩
          have d24 := d13.trans d14
          go_wp2_with fail
          refine (sameI_yes (P5.keeps d24.keeps) (P6.keeps d24.keeps) ⟨by first | rfl | omega, EQ3.2⟩).mono ?_
          rintro e w15 ⟨rfl, d15⟩
          have d25 := d24.trans d15
          go_wp2_with fail
          refine (consistent_yes (H := Unit) (P1.keeps d25.keeps) hS' (by omega) (.inr ⟨w3.heap.size, nn', rfl, P7.kept (d25.below.block _ P7.lt)⟩) hup'.1).mono ?_
          rintro e w16 ⟨rfl, hw16⟩
          rw [hw16]; clear hw16
          go_wp2_with fail
          go_ret
          exact ⟨rfl, Below.up PB d25.below⟩
        · have hex : ∃ j, j < R.L k' ∧ R.X k' j = about := by
            refine Classical.byContradiction fun hno => hG ⟨hf, hab, fun j hj e => hno ⟨j, hj, e⟩⟩
          have hf2 := hf
          rw [isFile] at hf2
          have hbb : (about.toList == []) = false := by have := beq_lists_ne hab; rw [empty_list] at this; exact this
          clear hsame hab
          go_wp2_with fail
          refine (has27_yes r8 hex).mono ?_
          rintro e w' ⟨rfl, hw⟩
          rw [hw]; clear hw w'
          go_wp2_with fail
          refine (sameS_yes P1 P2 EQ1).mono ?_
          rintro e w13 ⟨rfl, q13, hw13⟩
          have d13 : Drawn w9 w13 := ⟨q13, hw13⟩
          clear hw13
          go_wp2_with fail
          refine (sameL_yes (P3.keeps d13.keeps) (P4.keeps d13.keeps) EQ2).mono ?_
          rintro e w14 ⟨rfl, d14⟩
          have d24 := d13.trans d14
          go_wp2_with fail
          refine (sameI_yes (P5.keeps d24.keeps) (P6.keeps d24.keeps) ⟨by first | rfl | omega, EQ3.2⟩).mono ?_
          rintro e w15 ⟨rfl, d15⟩
          have d25 := d24.trans d15
          go_wp2_with fail
          refine (consistent_yes (H := Unit) (P1.keeps d25.keeps) hS' (by omega) (.inr ⟨w3.heap.size, nn', rfl, P7.kept (d25.below.block _ P7.lt)⟩) hup'.1).mono ?_
          rintro e w16 ⟨rfl, hw16⟩
          rw [hw16]; clear hw16
          go_wp2_with fail
          go_ret
          exact ⟨rfl, Below.up PB d25.below⟩
    · subst hch
      obtain ⟨hf, hab, hno⟩ := hG
      rw [isFile] at hf
      have hbb : (about.toList == []) = false := by have := beq_lists_ne hab; rw [empty_list] at this; exact this
      obtain ⟨bT, oT, hb9, _, y9⟩ := s9'.at hk
      subst hb9
      obtain ⟨u1, u2, u3⟩ := (fr8.below l9) bA oA rfl
      obtain ⟨v1, v2, v3⟩ := fr9 bT oT rfl
      obtain ⟨_, u4, _⟩ := fr8 bA oA rfl
      obtain ⟨i9, hi9, hz90, hz91, hz92⟩ := info_parts Try.info9
      obtain ⟨rl, hrl⟩ : ∃ rl, rl = R.L k' := ⟨_, rfl⟩
      obtain ⟨ra, hra⟩ : ∃ ra, ra = A8 k' := ⟨_, rfl⟩
      have hrlb : rl ≤ 65536 := by rw [hrl]; exact hL k' hk
      rw [← hra, ← hrl] at y8 r8
      rw [← hrl] at hno
      have r8a := (r8.keeps (keeps_alloc w9 (.cells #[.string about] 9))).one
      have HRL : Hid (rl = R.L k') := hrl
      have HRA : Hid (ra = A8 k') := hra
      have HLK : Hid (R'.L k' = R.L k' + 1) := hLk
      have HXK : Hid (R'.X k' = fun j => if j < R.L k' then R.X k' j else about) := hXk
      have HTK : Hid (T' k' = 0) := hTk
      have HSA : Hid (∀ i, i < n' → i ≠ k' → R'.L i = R.L i ∧ R'.X i = R.X i ∧ T' i = T i) := hsame
      clear hrl hra hLk hXk hTk hsame hab
      go_wp2_with (first | (go_at_call 27; refine (has27_no r8 hno).mono ?_; rintro e w' ⟨rfl, hw⟩; rw [hw]; clear hw) | (at_builtin; refine wpList_append_one _ rfl (.tmp 163) (.tmp 165) 35 rfl 9 i9 _ 1 16 Try.underlying35 hi9 hz90 hz91 hz92 (by omega) ra rl 0 _ rfl r8a _ _ rfl (src_one w9 (.string about) 9) (by omega) (by omega) ?_; intro c11 w11 x11 l11; have L11 : Below w9.heap.size w9 w11 := Below.up (below_alloc w9 _) l11; have m1 := (Keeps.below L11) _ _ y8; have m2 := (L11.frozen (p := ⟨bA, oA + k', none⟩) u2).trans (u3 (oA + k')); have m3 := cell_set_ne (x := .slice (some ⟨w9.heap.size + 1, 0, none⟩) (rl + 1) c11) m1 ((Keeps.below L11) _ _ y9) (by simp); have m4 : (w11.setCell ⟨bA, oA + k', none⟩ (.slice (some ⟨w9.heap.size + 1, 0, none⟩) (rl + 1) c11)).frozen? ⟨bT, oT + k', none⟩ = false := by (rw [World.frozen?, Below.heap_setCell _ _ _ _ (by show bT ≠ bA; omega), ← World.frozen?]; exact (L11.frozen (p := ⟨bT, oT + k', none⟩) v2).trans (v3 (oT + k')))))
      rw [Nat.mul_one, Nat.mul_one] at x11
      have e11 : (w9.alloc (.cells #[.string about] 9)).heap.size = w9.heap.size + 1 := by simp
      rw [e11] at x11
      have K11 := Keeps.below L11
      have m5 := K11 _ _ y9
      obtain ⟨V, hV⟩ : ∃ V, V = Value.slice (some ⟨w9.heap.size + 1, 0, none⟩) (rl + 1) c11 := ⟨_, rfl⟩
      obtain ⟨W12, hW12⟩ : ∃ W12, W12 = (w11.setCell ⟨bA, oA + k', none⟩ V).setCell ⟨bT, oT + k', none⟩ (.int .i64 0) := ⟨_, rfl⟩
      have m3' : (w11.setCell ⟨bA, oA + k', none⟩ V).cell? ⟨bT, oT + k', none⟩ = some (.int .i64 (T k')) := cell_set_ne m1 m5 (by simp)
      have sz69 := l69.size
      have szA : w6.heap.size ≤ bA := Nat.le_trans l7.size u1
      have szT : w6.heap.size ≤ bT := Nat.le_trans l7.size (Nat.le_trans l8.size v1)
      have K6 : Keeps w6 W12 := by rw [hW12]; exact keeps_set (keeps_set (k69.trans K11) szA _) szT _
      have P1 := t1.keeps K6
      have P3 := t2.keeps K6
      have P5 := t3.keeps K6
      have P2 : SS 0 W12 b7 n' S := by rw [hW12]; exact ((s7'.keeps K11).off m1 (fun i hi => by simp) _).off m3' (fun i hi => by simp) _
      have P4 : LS 0 W12 (some ⟨bA, oA, none⟩) n' ⟨fun i => if i = k' then some ⟨w9.heap.size + 1, 0, none⟩ else A8 i, fun i => if i = k' then rl + 1 else R.L i, fun i => if i = k' then c11 else R.L i, fun i => if i = k' then (fun j => if j < rl then R.X k' j else about) else R.X i⟩ := by
        rw [hW12]
        refine ⟨(((s8'.1.keeps K11).set hk V).off m3' (fun i hi => ?_) _).congr (fun i hi => ?_), fun i hi => ?_⟩
        · by_cases hik : i = k'
          · simp [hik, hV]
          · simp [hik, Rows2.v]
        · by_cases hik : i = k'
          · simp [hik, hV, Rows2.v]
          · simp [hik, Rows2.v]
        · by_cases hik : i = k'
          · simp only [hik, if_true]
            refine ((((x11.mono (Nat.zero_le _)).congr (fun j hj => ?_)).off m1 (fun j hj => by simp) V).off m3' (fun j hj => by simp) _)
            by_cases hjr : j < rl <;> simp [hjr]
          · simp only [hik, if_false]
            exact (((s8'.2 i hi).keeps K11).off m1 (fun j hj => by simp) V).off m3' (fun j hj => by simp) _
      have P6 : IS 0 W12 (some ⟨bT, oT, none⟩) n' (fun i => if i = k' then 0 else T i) := by
        rw [hW12]
        exact (((s9'.keeps K11).off m1 (fun i hi => by simp) V).set hk (.int .i64 0)).congr (fun i hi => by by_cases hik : i = k' <;> simp [hik])
      have P7 := him6.kept (w' := W12) (by
        rw [hW12, Below.heap_setCell _ _ _ _ (by show w3.heap.size ≠ bT; omega), Below.heap_setCell _ _ _ _ (by show w3.heap.size ≠ bA; omega)]
        exact (Below.up l69 L11).block _ hm6)
      have PB : Below w.heap.size w W12 := by
        rw [hW12]
        exact ((Below.up bw9 L11).setCell (by show w.heap.size ≤ bA; have := bw6.size; omega) _).setCell (by show w.heap.size ≤ bT; have := bw6.size; omega) _
      have EQ2 : RowsEq n' R' n' ⟨fun i => if i = k' then some ⟨w9.heap.size + 1, 0, none⟩ else A8 i, fun i => if i = k' then rl + 1 else R.L i, fun i => if i = k' then c11 else R.L i, fun i => if i = k' then (fun j => if j < rl then R.X k' j else about) else R.X i⟩ := ⟨rfl, fun i hi => by
        by_cases hik : i = k'
        · subst hik
          simp only [if_true]
          rw [HRL.out]
          exact ⟨HLK.out, fun j _ => congrFun HXK.out j⟩
        · simp only [hik, if_false]
          exact ⟨(HSA.out i hi hik).1, fun j _ => congrFun (HSA.out i hi hik).2.1 j⟩⟩
      have EQ3 : n' = n' ∧ ∀ i, i < n' → T' i = (fun i => if i = k' then 0 else T i) i := ⟨rfl, fun i hi => by
        by_cases hik : i = k'
        · subst hik
          simp only [if_true]
          exact HTK.out
        · simp only [hik, if_false]
          exact (HSA.out i hi hik).2.2⟩
      rw [← hV, ← hW12]
      clear hV hW12
      refine (sameS_yes P1 P2 EQ1).mono ?_
      rintro e w13 ⟨rfl, q13, hw13⟩
      have d13 : Drawn W12 w13 := ⟨q13, hw13⟩
      clear hw13
      go_wp2_with fail
      refine (sameL_yes (P3.keeps d13.keeps) (P4.keeps d13.keeps) EQ2).mono ?_
      rintro e w14 ⟨rfl, d14⟩
      have d24 := d13.trans d14
      go_wp2_with fail
      refine (sameI_yes (P5.keeps d24.keeps) (P6.keeps d24.keeps) ⟨by first | rfl | omega, EQ3.2⟩).mono ?_
      rintro e w15 ⟨rfl, d15⟩
      have d25 := d24.trans d15
      go_wp2_with fail
      refine (consistent_yes (H := Unit) (P1.keeps d25.keeps) hS' (by omega) (.inr ⟨w3.heap.size, nn', rfl, P7.kept (d25.below.block _ P7.lt)⟩) hup'.1).mono ?_
      rintro e w16 ⟨rfl, hw16⟩
      rw [hw16]; clear hw16
      go_wp2_with fail
      go_ret
      exact ⟨rfl, Below.up PB d25.below⟩
end Go.Proofs.Qxb6604795a
