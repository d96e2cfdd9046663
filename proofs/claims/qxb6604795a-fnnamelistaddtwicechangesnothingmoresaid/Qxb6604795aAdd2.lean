import Derived.Test.Qxb6604795aAdd
namespace Go.Proofs.Qxb6604795a
open Go.RowKit Go.Maps

/-- The kind of a file. -/
def isFile (kind : ByteArray) : Bool := kind.toList == [102, 105, 108, 101]
/-- Whether an entry that is listed gains what is said of it. -/
def Gains (kind about : ByteArray) (l : Nat) (X : Nat → ByteArray) : Prop := isFile kind = true ∧ about ≠ ByteArray.empty ∧ ∀ j, j < l → X j ≠ about

theorem has_yes {a : Option Addr} {n c : Nat} {S : Nat → ByteArray} {s : ByteArray} {w : World} (h : SS 0 w a n S) (hk : ∃ k, k < n ∧ S k = s) : Calls Try.prog 44 #[.slice a n c, .string s] w fun e w' => e = .returned (.bool true) ∧ w' = w := by
  refine (contains_walk a n c S s w h).mono ?_
  rintro e w' ⟨hw, ⟨_, _, _, rfl⟩ | ⟨hn, _⟩⟩
  · exact ⟨rfl, hw⟩
  · obtain ⟨k, h1, h2⟩ := hk
    exact absurd h2 (hn k h1)
theorem has_no {a : Option Addr} {n c : Nat} {S : Nat → ByteArray} {s : ByteArray} {w : World} (h : SS 0 w a n S) (hk : ∀ j, j < n → S j ≠ s) : Calls Try.prog 44 #[.slice a n c, .string s] w fun e w' => e = .returned (.bool false) ∧ w' = w := by
  refine (contains_walk a n c S s w h).mono ?_
  rintro e w' ⟨hw, ⟨k, h1, h2, _⟩ | ⟨hn, rfl⟩⟩
  · exact absurd h2 (hk k h1)
  · exact ⟨rfl, hw⟩

set_option maxRecDepth 100000 in
set_option maxHeartbeats 1000000 in
theorem add_keep (w : World) (lb eb m n nn k : Nat) (kind name about : ByteArray) (left : Int) (F : ByteArray → Option Int) (ra : Option Addr) (rl rc : Nat) (X : Nat → ByteArray) (hL : LCells w lb kind (.slice (some ⟨eb, 0, none⟩) n n) m left)
    (hE : w.cell? ⟨eb, k * 3 + 1, none⟩ = some (.slice ra rl rc)) (hk : k < n) (hX : SS 0 w ra rl X) (him : IMap Unit w m nn n F) (hnm : name.size ≤ 1048576) (hF : F name = some (k : Int)) (hG : ¬ Gains kind about rl X) :
    Calls Try.prog 35 #[.pointer (some ⟨lb, 0, none⟩), .string name, .string about] w fun e w' => e = .returned (.bool false) ∧ w' = w := by
  have hlk := him.look (s := name) (by omega)
  rw [hF] at hlk
  simp only [Option.getD_some, Option.isSome_some] at hlk
  obtain ⟨c0, c1, c2, c3⟩ := hL
  have hk' : (k : Int) < n := by omega
  clear him hF
  cases hf : isFile kind with
  | false =>
    rw [isFile] at hf
    go_enter Try.func35, Try.ntmps35
    go_wp2_with fail
    go_ret
    exact ⟨rfl, rfl⟩
  | true =>
    by_cases hab : about = ByteArray.empty
    · have hf2 := hf
      rw [isFile] at hf2
      have hbb : (about.toList == []) = true := by rw [hab, empty_list]; rfl
      clear hab
      go_enter Try.func35, Try.ntmps35
      go_wp2_with fail
      go_ret
      exact ⟨rfl, rfl⟩
    · have hex : ∃ j, j < rl ∧ X j = about := by
        refine Classical.byContradiction fun hno => hG ⟨hf, hab, fun j hj e => hno ⟨j, hj, e⟩⟩
      have hf2 := hf
      rw [isFile] at hf2
      have hbb : (about.toList == []) = false := by have := beq_lists_ne hab; rw [empty_list] at this; exact this
      clear hab hG hf
      go_enter Try.func35, Try.ntmps35
      go_wp2_with fail
      refine (has_yes hX hex).mono ?_
      rintro e w' ⟨rfl, hw⟩
      rw [hw]; clear hw
      go_wp2_with fail
      go_ret
      exact ⟨rfl, rfl⟩

def AddGrow (w : World) (lb eb m n nn k : Nat) (kind about : ByteArray) (left : Int) (E : Nat → Value) (F : ByteArray → Option Int) (rl : Nat) (X : Nat → ByteArray) (B : Nat) (e : Ending) (w' : World) : Prop :=
  e = .returned (.bool true) ∧ ∃ (A1 : Option Addr) (c1 : Nat), LCells w' lb kind (.slice (some ⟨eb, 0, none⟩) n n) m left ∧ CS 0 w' (some ⟨eb, 0, none⟩) (n * 3) (fun j => if j = k * 3 + 2 then .int .i64 0 else if j = k * 3 + 1 then .slice A1 (rl + 1) c1 else E j) ∧
    SS 0 w' A1 (rl + 1) (fun j => if j < rl then X j else about) ∧ IMap Unit w' m nn n F ∧ KeepsBut w w' (· = eb) ∧ Below B w w'

set_option maxRecDepth 100000 in
set_option maxHeartbeats 1000000 in
theorem add_grow (w : World) (lb eb m n nn k : Nat) (kind name about : ByteArray) (left : Int) (E : Nat → Value) (F : ByteArray → Option Int) (ra : Option Addr) (rl : Nat) (X : Nat → ByteArray) (B : Nat) (hL : LCells w lb kind (.slice (some ⟨eb, 0, none⟩) n n) m left) (hne : lb ≠ eb)
    (hR : w.rowIs eb 63 (n * 3) E) (hE : E (k * 3 + 1) = .slice ra rl rl) (hk : k < n) (hn : n ≤ 65537) (hrl : rl ≤ 1048577) (hX : SS 0 w ra rl X) (him : IMap Unit w m nn n F) (hnm : name.size ≤ 1048576) (hF : F name = some (k : Int)) (hG : Gains kind about rl X) (hB : B ≤ eb) (hB3 : B ≤ w.heap.size) :
    Calls Try.prog 35 #[.pointer (some ⟨lb, 0, none⟩), .string name, .string about] w (AddGrow w lb eb m n nn k kind about left E F rl X B) := by
  have hlk := him.look (s := name) (by omega)
  rw [hF] at hlk
  simp only [Option.getD_some, Option.isSome_some] at hlk
  obtain ⟨c0, c1, c2, c3⟩ := hL
  have hk' : (k : Int) < n := by omega
  obtain ⟨hf, hab, hno⟩ := hG
  rw [isFile] at hf
  have hbb : (about.toList == []) = false := by have := beq_lists_ne hab; rw [empty_list] at this; exact this
  have e1 := hR.cell (i := k * 3 + 1) (by omega)
  rw [hE] at e1
  obtain ⟨i0, hi, hz0, hz1, hz2⟩ := info_parts Try.info9
  have hX1 : CS 0 (w.alloc (.cells #[.string about] 9)) ra (rl * 1) (fun i => .string (X i)) := by
    rw [Nat.mul_one]
    exact hX.keeps (Keeps.below ((Below.refl _ _).alloc (Nat.le_refl _) _))
  have hsrc : ∀ j, j < 1 → (w.alloc (.cells #[.string about] 9)).cell? ⟨w.heap.size, j, none⟩ = some ((fun _ => Value.string about) j) := by
    intro j hj
    obtain rfl : j = 0 := by omega
    have h0 : (w.alloc (.cells #[.string about] 9)).heap[w.heap.size]? = some (.cells #[.string about] 9 (0, 0)) := heap_alloc_new w _
    rw [World.cell?]
    simp only [h0]
    rfl
  clear hab hF
  go_enter Try.func35, Try.ntmps35
  go_wp2_with (first | (go_at_call 44; refine (has_no hX hno).mono ?_; rintro e w' ⟨rfl, hw⟩; rw [hw]; clear hw) | (at_builtin; refine wpList_append_one _ rfl (.tmp 76) (.tmp 78) 35 rfl 9 i0 _ 1 16 Try.underlying35 hi hz0 hz1 hz2 (by omega) ra rl 0 _ rfl hX1 w.heap.size (fun _ => Value.string about) rfl hsrc (by omega) (by omega) ?_; intro c9 w9 h9 b9; have hr9 : w9.rowIs eb 63 (n * 3) E := hR.of_block ((b9.block _ (by have := hR.lt; simp; omega)).trans (Below.heap_alloc _ _ _ hR.lt)); have q1 := hr9.cell (i := k * 3 + 1) (by omega); have q2 := (hr9.set (k * 3 + 1) (.slice (some ⟨w.heap.size + 1, 0, none⟩) (rl + 1) c9)).cell (i := k * 3 + 2) (by omega); have f1 := hr9.frozen (k * 3 + 1); have f2 := (hr9.set (k * 3 + 1) (.slice (some ⟨w.heap.size + 1, 0, none⟩) (rl + 1) c9)).frozen (k * 3 + 2)))
  go_ret
  have hsz : (w.alloc (.cells #[.string about] 9)).heap.size = w.heap.size + 1 := by simp
  have hr10 := (hr9.set (k * 3 + 1) (.slice (some ⟨w.heap.size + 1, 0, none⟩) (rl + 1) c9)).set (k * 3 + 2) (.int .i64 0)
  have ba : Below w.heap.size w (w.alloc (.cells #[.string about] 9)) := (Below.refl _ _).alloc (Nat.le_refl _) _
  have b19 : Below w.heap.size w w9 := ba.trans (b9.mono ba.size)
  have k19 := Keeps.below b19
  have hns : ∀ (p : Addr) (v : Value) (i j : Nat) (u t : Value), p.block ≠ eb → w9.cell? p = some v → ((w9.setCell ⟨eb, i, none⟩ u).setCell ⟨eb, j, none⟩ t).cell? p = some v := fun p v i j u t hp h =>
    (cell_setCell_other (a := ⟨eb, j, none⟩) hp).trans ((cell_setCell_other (a := ⟨eb, i, none⟩) hp).trans h)
  have hebl := hR.lt
  refine ⟨rfl, some ⟨w.heap.size + 1, 0, none⟩, c9, ⟨hns _ _ _ _ _ _ hne (k19 _ _ c0), hns _ _ _ _ _ _ hne (k19 _ _ c1), hns _ _ _ _ _ _ hne (k19 _ _ c2), hns _ _ _ _ _ _ hne (k19 _ _ c3)⟩, CS.row hr10 (Nat.zero_le _) (by omega), ?_, ?_, ?_, ?_⟩
  · refine ⟨by omega, .inr ⟨w.heap.size + 1, 0, rfl, Nat.zero_le _, fun i hi => ?_⟩⟩
    rcases h9.2 with h | ⟨b, o, e, _, hc⟩
    · omega
    · rw [hsz] at e
      cases e
      have h2 := hc i (by omega)
      refine hns _ _ _ _ _ _ (by show w.heap.size + 1 ≠ eb; omega) (h2.trans ?_)
      rw [Nat.mul_one]
      by_cases hir : i < rl <;> simp [hir]
  · refine him.kept ?_
    have hm1 : m ≠ eb := fun e => IMap.notCell him e1 (by rw [e])
    rw [Below.heap_setCell _ _ _ _ hm1, Below.heap_setCell _ _ _ _ hm1]
    exact b19.block m him.lt
  · intro p v hp h
    exact hns p v _ _ _ _ hp (k19 _ _ h)
  · exact ((b19.mono hB3).setCell hB _).setCell hB _

/-- What one add does to the list. -/
def AddRel (kind name about : ByteArray) (n : Nat) (S : Nat → ByteArray) (L : Nat → Nat) (X : Nat → Nat → ByteArray) (T : Nat → Int) (ch : Bool) (n' : Nat) (S' : Nat → ByteArray) (L' : Nat → Nat) (X' : Nat → Nat → ByteArray) (T' : Nat → Int) : Prop :=
  ((∀ j, j < n → S j ≠ name) ∧ ch = true ∧ n' = n + 1 ∧ (∀ i, i < n → S' i = S i ∧ L' i = L i ∧ X' i = X i ∧ T' i = T i) ∧ S' n = name ∧ ((about = ByteArray.empty ∧ L' n = 0) ∨ (about ≠ ByteArray.empty ∧ L' n = 1)) ∧ X' n = (fun _ => about) ∧ T' n = 0) ∨
  ∃ k, k < n ∧ S k = name ∧ n' = n ∧ (∀ i, i < n → S' i = S i) ∧
    ((¬ Gains kind about (L k) (X k) ∧ ch = false ∧ ∀ i, i < n → L' i = L i ∧ X' i = X i ∧ T' i = T i) ∨
     (Gains kind about (L k) (X k) ∧ ch = true ∧ (∀ i, i < n → i ≠ k → L' i = L i ∧ X' i = X i ∧ T' i = T i) ∧ L' k = L k + 1 ∧ X' k = (fun j => if j < L k then X k j else about) ∧ T' k = 0))

def AddSays (w0 w : World) (lb m n nn : Nat) (kind name about : ByteArray) (left : Int) (S : Nat → ByteArray) (R : Rows2) (T : Nat → Int) (B : Nat) (e : Ending) (w' : World) : Prop :=
  ∃ (ch : Bool) (n' eb c : Nat) (S' : Nat → ByteArray) (R' : Rows2) (T' : Nat → Int) (F' : ByteArray → Option Int) (nn' : Nat) (E' : Nat → Value), e = .returned (.bool ch) ∧ LCells w' lb kind (.slice (some ⟨eb, 0, none⟩) n' c) m left ∧
    CS 0 w' (some ⟨eb, 0, none⟩) (n' * 3) E' ∧ (∀ i, i < n' → E' (i * 3) = .string (S' i) ∧ E' (i * 3 + 1) = R'.v i ∧ E' (i * 3 + 2) = .int .i64 (T' i)) ∧ (∀ i, i < n' → SS 0 w' (R'.A i) (R'.L i) (R'.X i)) ∧
    IMap Unit w' m nn' n' F' ∧ nn' ≤ nn + 1 ∧ n' ≤ n + 1 ∧ Upto n' S' n' F' ∧ AddRel kind name about n S R.L R.X T ch n' S' R'.L R'.X T' ∧ Keeps w0 w' ∧ Below B w w'

theorem found (n : Nat) (S : Nat → ByteArray) (name : ByteArray) : (∀ j, j < n → S j ≠ name) ∨ ∃ k, k < n ∧ S k = name := by
  by_cases hx : ∃ k, k < n ∧ S k = name
  · exact .inr hx
  · exact .inl fun j hj e => hx ⟨j, hj, e⟩

theorem keepsBut_old {w0 w w' : World} {p : Nat → Prop} (h0 : Keeps w0 w) (h : KeepsBut w w' p) (hp : ∀ b, p b → w0.heap.size ≤ b) : Keeps w0 w' := fun a v ha => by
  refine h a v (fun hh => ?_) (h0 a v ha)
  have := hp _ hh
  have := World.block_lt_of_cell? _ _ ha
  omega

theorem add_walk (w0 w : World) (lb eb m n nn : Nat) (kind name about : ByteArray) (left : Int) (E : Nat → Value) (S : Nat → ByteArray) (R : Rows2) (T : Nat → Int) (F : ByteArray → Option Int) (B : Nat) (hL : LCells w lb kind (.slice (some ⟨eb, 0, none⟩) n n) m left) (hlf : ∀ o, w.frozen? ⟨lb, o, none⟩ = false) (hne : lb ≠ eb)
    (hR : w.rowIs eb 63 (n * 3) E) (hE : ∀ i, i < n → E (i * 3) = .string (S i) ∧ E (i * 3 + 1) = R.v i ∧ E (i * 3 + 2) = .int .i64 (T i)) (hrow : ∀ i, i < n → SS 0 w0 (R.A i) (R.L i) (R.X i)) (hk0 : Keeps w0 w) (hlb : w0.heap.size ≤ lb) (heb : w0.heap.size ≤ eb)
    (him : IMap Unit w m nn n F) (hup : Upto n S n F) (hnn : nn ≤ 1048576) (hn : n ≤ 65537) (hl : ∀ i, i < n → R.L i ≤ 1048577) (hnm : name.size ≤ 1048576) (hcap : ∀ k, k < n → S k = name → Gains kind about (R.L k) (R.X k) → R.C k = R.L k) (hB1 : B ≤ w0.heap.size) (hB2 : B ≤ m) (hB3 : w0.heap.size ≤ w.heap.size) :
    Calls Try.prog 35 #[.pointer (some ⟨lb, 0, none⟩), .string name, .string about] w (AddSays w0 w lb m n nn kind name about left S R T B) := by
  rcases found n S name with hno | ⟨k, hk, hs⟩
  · have hF := hup.2 name hno
    refine (add_new w lb eb m n nn kind name about left E F B hL hlf (CS.row hR (Nat.zero_le _) (by omega)) him hnn hn hnm hF (by omega) hB2 (by omega)).mono ?_
    rintro e w' ⟨rfl, eb', c', A1, L1, hL', hE', hA1, hL1, him', hkb, hbel⟩
    have hk0' : Keeps w0 w' := keepsBut_old hk0 hkb (fun b e => by rw [e]; exact hlb)
    refine ⟨true, n + 1, eb', c', fun i => if i < n then S i else name, ⟨fun i => if i < n then R.A i else A1, fun i => if i < n then R.L i else L1, fun i => if i < n then R.C i else L1, fun i => if i < n then R.X i else fun _ => about⟩, fun i => if i < n then T i else 0, _, nn + 1, _, rfl, hL', hE', ?_, ?_, him', Nat.le_refl _, Nat.le_refl _, ?_, ?_, hk0', hbel⟩
    · intro i hi
      by_cases hin : i < n
      · obtain ⟨e0, e1, e2⟩ := hE i hin
        simp only [show i * 3 < n * 3 by omega, show i * 3 + 1 < n * 3 by omega, show i * 3 + 2 < n * 3 by omega, if_true, hin, Rows2.v]
        exact ⟨e0, e1, e2⟩
      · obtain rfl : i = n := by omega
        simp only [Rows2.v, show ¬ i * 3 < i * 3 by omega, show ¬ i * 3 + 1 < i * 3 by omega, show ¬ i * 3 + 2 < i * 3 by omega, if_false, Nat.lt_irrefl, Nat.sub_self, Nat.add_sub_cancel_left]
        exact ⟨rfl, rfl, rfl⟩
    · intro i hi
      by_cases hin : i < n
      · simp only [hin, if_true]
        exact (hrow i hin).keeps hk0'
      · simp only [hin, if_false]
        exact hA1
    · refine ⟨⟨rfl, fun j hj => ?_⟩, fun s hs => ?_⟩
      · by_cases hjn : j < n
        · simp only [hjn, if_true]
          rw [if_neg (hno j hjn)]
          exact hup.1.2 j hjn
        · obtain rfl : j = n := by omega
          simp
      · have h1 : ¬ s = name := fun e => by
          have := hs n (by omega)
          simp at this
          exact this e.symm
        dsimp only
        rw [if_neg h1]
        refine hup.2 s fun j hj e => ?_
        have := hs j (by omega)
        simp only [hj, if_true] at this
        exact this e
    · refine .inl ⟨hno, rfl, rfl, fun i hi => by simp [hi], by simp, ?_, by simp, by simp⟩
      simpa using hL1
  · have hF : F name = some (k : Int) := by rw [← hs]; exact hup.1.2 k hk
    obtain ⟨e0, e1, e2⟩ := hE k hk
    rw [Rows2.v] at e1
    by_cases hG : Gains kind about (R.L k) (R.X k)
    · rw [hcap k hk hs hG] at e1
      refine (add_grow w lb eb m n nn k kind name about left E F (R.A k) (R.L k) (R.X k) B hL hne hR e1 hk hn (hl k hk) ((hrow k hk).keeps hk0) him hnm hF hG (by omega) (by omega)).mono ?_
      rintro e w' ⟨rfl, A1, c1, hL', hE', hA1, him', hkb, hbel⟩
      have hk0' : Keeps w0 w' := keepsBut_old hk0 hkb (fun b e => by rw [e]; exact heb)
      refine ⟨true, n, eb, n, S, ⟨fun i => if i = k then A1 else R.A i, fun i => if i = k then R.L k + 1 else R.L i, fun i => if i = k then c1 else R.C i, fun i => if i = k then (fun j => if j < R.L k then R.X k j else about) else R.X i⟩, fun i => if i = k then 0 else T i, F, nn, _, rfl, hL', hE', ?_, ?_, him', by omega, by omega, hup, ?_, hk0', hbel⟩
      · intro i hi
        obtain ⟨e0, e1, e2⟩ := hE i hi
        by_cases hik : i = k
        · subst hik
          simp only [Rows2.v, show ¬ i * 3 = i * 3 + 2 by omega, show ¬ i * 3 = i * 3 + 1 by omega, show ¬ i * 3 + 1 = i * 3 + 2 by omega, if_false, if_true]
          refine ⟨e0, ?_, ?_⟩ <;> first | rfl | trivial
        · simp only [Rows2.v, show ¬ i * 3 = k * 3 + 2 by omega, show ¬ i * 3 = k * 3 + 1 by omega, show ¬ i * 3 + 1 = k * 3 + 2 by omega, show ¬ i * 3 + 1 = k * 3 + 1 by omega, show ¬ i * 3 + 2 = k * 3 + 1 by omega, show ¬ i * 3 + 2 = k * 3 + 2 by omega, hik, if_false]
          exact ⟨e0, e1, e2⟩
      · intro i hi
        by_cases hik : i = k
        · simp only [hik, if_true]
          exact hA1
        · simp only [hik, if_false]
          exact (hrow i hi).keeps hk0'
      · refine .inr ⟨k, hk, hs, rfl, fun _ _ => rfl, .inr ⟨hG, rfl, fun i hi hik => by simp [hik], by simp, by simp, by simp⟩⟩
    · have hc : w.cell? ⟨eb, k * 3 + 1, none⟩ = some (.slice (R.A k) (R.L k) (R.C k)) := by rw [hR.cell (by omega), e1]
      refine (add_keep w lb eb m n nn k kind name about left F (R.A k) (R.L k) (R.C k) (R.X k) hL hc hk ((hrow k hk).keeps hk0) him hnm hF hG).mono ?_
      rintro e w' ⟨rfl, rfl⟩
      exact ⟨false, n, eb, n, S, R, T, F, nn, E, rfl, hL, CS.row hR (Nat.zero_le _) (by omega), hE, fun i hi => (hrow i hi).keeps hk0, him, by omega, by omega, hup, .inr ⟨k, hk, hs, rfl, fun _ _ => rfl, .inl ⟨hG, rfl, fun _ _ => ⟨rfl, rfl, rfl⟩⟩⟩, hk0, Below.refl _ _⟩
end Go.Proofs.Qxb6604795a
