namespace Go.Proofs.Qxb6601576a

/-! choose, without Go. A lane is f*6+t. -/

/-- The least of the first m+1 keys. -/
def mn (key : Nat → Nat) : Nat → Nat
  | 0 => key 0
  | m + 1 => min (mn key m) (key (m + 1))

theorem mn_le (key : Nat → Nat) : ∀ m t, t ≤ m → mn key m ≤ key t
  | 0, t, h => by have : t = 0 := by omega
                  subst this; exact Nat.le_refl _
  | m + 1, t, h => by
    rw [mn]
    rcases Nat.lt_or_ge t (m + 1) with h' | h'
    · exact Nat.le_trans (Nat.min_le_left _ _) (mn_le key m t (by omega))
    · have : t = m + 1 := by omega
      subst this; exact Nat.min_le_right _ _

theorem mn_at (key : Nat → Nat) : ∀ m, ∃ t, t ≤ m ∧ mn key m = key t
  | 0 => ⟨0, Nat.le_refl _, rfl⟩
  | m + 1 => by
    obtain ⟨t, h1, h2⟩ := mn_at key m
    rw [mn]
    rcases Nat.le_total (mn key m) (key (m + 1)) with h | h
    · exact ⟨t, by omega, by rw [Nat.min_eq_left h, h2]⟩
    · exact ⟨m + 1, Nat.le_refl _, Nat.min_eq_right h⟩

/-- Eight times the cost, and the number. -/
def key (c : Nat → Nat) (t : Nat) : Nat := 8 * c t + t

theorem mn_mod (c : Nat → Nat) (m : Nat) (hm : m < 8) : mn (key c) m % 8 ≤ m := by
  obtain ⟨t, h1, h2⟩ := mn_at (key c) m
  rw [h2, key]; omega

/-- One more code: it is chosen where it costs less. -/
theorem mn_step_lt (c : Nat → Nat) (m : Nat) (hm : m + 1 < 8) (h : c (m + 1) < mn (key c) m / 8) : mn (key c) (m + 1) / 8 = c (m + 1) ∧ mn (key c) (m + 1) % 8 = m + 1 := by
  have e : mn (key c) (m + 1) = key c (m + 1) := by
    rw [mn]; apply Nat.min_eq_right; unfold key at *; omega
  rw [e, key]; omega
theorem mn_step_ge (c : Nat → Nat) (m : Nat) (hm : m + 1 < 8) (h : ¬ c (m + 1) < mn (key c) m / 8) : mn (key c) (m + 1) = mn (key c) m := by
  rw [mn]; apply Nat.min_eq_left
  have := mn_mod c m (by omega)
  unfold key at *; omega
theorem mn_zero (c : Nat → Nat) : mn (key c) 0 / 8 = c 0 ∧ mn (key c) 0 % 8 = 0 := by
  rw [mn, key]; omega

/-- The codes past the n cost no less than any. -/
theorem mn_past (c : Nat → Nat) (n : Nat) : ∀ m, m + n < 8 → (∀ t, n < t → t < 8 → c 0 ≤ c t) → mn (key c) (n + m) = mn (key c) n
  | 0, _, _ => rfl
  | m + 1, hm, h => by
    rw [← Nat.add_assoc, mn_step_ge c (n + m) (by omega), mn_past c n m (by omega) h]
    have h1 := h (n + m + 1) (by omega) (by omega)
    have h2 := mn_le (key c) (n + m) 0 (by omega)
    unfold key at h2
    have : mn (key c) (n + m) / 8 ≤ c 0 := by unfold key; omega
    omega

theorem mn_congr (k k' : Nat → Nat) : ∀ m, (∀ t, t ≤ m → k t = k' t) → mn k m = mn k' m
  | 0, h => h 0 (Nat.le_refl _)
  | m + 1, h => by rw [mn, mn, mn_congr k k' m (fun t ht => h t (by omega)), h (m + 1) (Nat.le_refl _)]

/-- The cost of the entries from a on, m of them, under the lengths len. -/
def cst (en : Nat → Nat) (len : Nat → Nat) (a : Nat) : Nat → Nat
  | 0 => 0
  | m + 1 => cst en len a m + en (a + m) % 64 * len (en (a + m) / 64)
/-- How many symbols. -/
def tot (en : Nat → Nat) (a : Nat) : Nat → Nat
  | 0 => 0
  | m + 1 => tot en a m + en (a + m) % 64

theorem cst_const (en : Nat → Nat) (a k : Nat) : ∀ m, cst en (fun _ => k) a m = tot en a m * k
  | 0 => by simp [cst, tot]
  | m + 1 => by rw [cst, tot, cst_const en a k m, Nat.add_mul]

theorem cst_le (en len : Nat → Nat) (a k : Nat) : ∀ m, (∀ j, j < m → len (en (a + j) / 64) ≤ k) → cst en len a m ≤ tot en a m * k
  | 0, _ => by simp [cst]
  | m + 1, h => by
    rw [cst, tot, Nat.add_mul]
    exact Nat.add_le_add (cst_le en len a k m (fun j hj => h j (by omega))) (Nat.mul_le_mul_left _ (h m (by omega)))

theorem tot_mono (en : Nat → Nat) (a : Nat) : ∀ m m', m ≤ m' → tot en a m ≤ tot en a m'
  | m, 0, h => by have : m = 0 := by omega
                  subst this; exact Nat.le_refl _
  | m, m' + 1, h => by
    rcases Nat.lt_or_ge m (m' + 1) with h' | h'
    · rw [tot]; exact Nat.le_trans (tot_mono en a m m' (by omega)) (Nat.le_add_right _ _)
    · have : m = m' + 1 := by omega
      subst this; exact Nat.le_refl _

/-! Four lanes of a word. -/
def four (a b c d : Nat) : Nat := a + b * 65536 + c * 4294967296 + d * 281474976710656

theorem or_lane (x k v : Nat) (hx : x < 2 ^ k) : x ||| (v * 2 ^ k) = x + v * 2 ^ k := by
  rw [Nat.mul_comm v, Nat.add_comm, Nat.or_comm]
  exact (Nat.two_pow_add_eq_or_of_lt hx v).symm

theorem four_lt {a b c d : Nat} (ha : a < 65536) (hb : b < 65536) (hc : c < 65536) (hd : d < 65536) : four a b c d < 18446744073709551616 := by
  unfold four; omega

theorem or8 (c t : Nat) (ht : t < 8) : 8 * c ||| t = 8 * c + t := by
  have := (Nat.two_pow_add_eq_or_of_lt (i := 3) (b := t) (by simpa using ht) c)
  simpa using this.symm

theorem or_split (x y : Nat) : x ||| y = (x / 65536 ||| y / 65536) * 65536 + (x % 65536 ||| y % 65536) := by
  have h1 := Nat.or_div_two_pow (a := x) (b := y) (n := 16)
  have h2 := Nat.or_mod_two_pow (a := x) (b := y) (n := 16)
  simp only [show (2 : Nat) ^ 16 = 65536 from rfl] at h1 h2
  rw [← h1, ← h2]; omega

theorem or_join (h l h' l' : Nat) (hl : l < 65536) (hl' : l' < 65536) : (h * 65536 + l) ||| (h' * 65536 + l') = (h ||| h') * 65536 + (l ||| l') := by
  rw [or_split, show (h * 65536 + l) / 65536 = h by omega, show (h' * 65536 + l') / 65536 = h' by omega, show (h * 65536 + l) % 65536 = l by omega, show (h' * 65536 + l') % 65536 = l' by omega]

theorem four_nest (a b c d : Nat) : four a b c d = ((d * 65536 + c) * 65536 + b) * 65536 + a := by unfold four; omega

theorem four_or {a b c d a' b' c' d' : Nat} (ha : a < 65536) (hb : b < 65536) (hc : c < 65536) (ha' : a' < 65536) (hb' : b' < 65536) (hc' : c' < 65536) :
    four a b c d ||| four a' b' c' d' = four (a ||| a') (b ||| b') (c ||| c') (d ||| d') := by
  rw [four_nest, four_nest, four_nest, or_join _ _ _ _ ha ha', or_join _ _ _ _ hb hb', or_join _ _ _ _ hc hc']

/-- The costs, with the numbers in their low bits. -/
theorem four_or8 {a b c d p q r s : Nat} (ha : a < 8192) (hb : b < 8192) (hc : c < 8192) (hp : p < 8) (hq : q < 8) (hr : r < 8) (hs : s < 8) :
    four (8 * a) (8 * b) (8 * c) (8 * d) ||| four p q r s = four (8 * a + p) (8 * b + q) (8 * c + r) (8 * d + s) := by
  rw [four_or (by omega) (by omega) (by omega) (by omega) (by omega) (by omega), or8 _ _ hp, or8 _ _ hq, or8 _ _ hr, or8 _ _ hs]

theorem four_l0 {a b c d : Nat} (ha : a < 65536) : four a b c d % 65536 = a := by unfold four; omega
theorem four_l1 {a b c d : Nat} (ha : a < 65536) (hb : b < 65536) : four a b c d / 65536 % 65536 = b := by unfold four; omega
theorem four_l2 {a b c d : Nat} (ha : a < 65536) (hb : b < 65536) (hc : c < 65536) : four a b c d / 4294967296 % 65536 = c := by unfold four; omega
theorem four_l3 {a b c d : Nat} (ha : a < 65536) (hb : b < 65536) (hc : c < 65536) : four a b c d / 281474976710656 = d := by unfold four; omega

/-- A lane filled where nothing lies above the lanes before it. -/
theorem four_or0 (v : Nat) : four 0 0 0 0 ||| v = four v 0 0 0 := by unfold four; simp
theorem four_or1 {a v : Nat} (ha : a < 65536) : four a 0 0 0 ||| v * 65536 = four a v 0 0 := by
  have := or_lane (four a 0 0 0) 16 v (by unfold four; omega)
  rw [show (2 : Nat) ^ 16 = 65536 from rfl] at this
  rw [this]; unfold four; omega
theorem four_or2 {a b v : Nat} (ha : a < 65536) (hb : b < 65536) : four a b 0 0 ||| v * 4294967296 = four a b v 0 := by
  have := or_lane (four a b 0 0) 32 v (by unfold four; omega)
  rw [show (2 : Nat) ^ 32 = 4294967296 from rfl] at this
  rw [this]; unfold four; omega
theorem four_or3 {a b c v : Nat} (ha : a < 65536) (hb : b < 65536) (hc : c < 65536) : four a b c 0 ||| v * 281474976710656 = four a b c v := by
  have := or_lane (four a b c 0) 48 v (by unfold four; omega)
  rw [show (2 : Nat) ^ 48 = 281474976710656 from rfl] at this
  rw [this]; unfold four; omega

/-- The four lanes of word k at symbol s, of the first m lanes. -/
def lanes (l : Nat → Nat) (m k : Nat) : Nat :=
  let v := fun j => if 4 * k + j < m then l (4 * k + j) else 0
  four (v 0) (v 1) (v 2) (v 3)

theorem lanes_zero (l : Nat → Nat) (k : Nat) : lanes l 0 k = 0 := by simp [lanes, four]

theorem lanes_other (l : Nat → Nat) (m k : Nat) (h : m / 4 ≠ k) : lanes l (m + 1) k = lanes l m k := by
  have e : ∀ j, j < 4 → (4 * k + j < m + 1 ↔ 4 * k + j < m) := fun j hj => by omega
  simp only [lanes, e 0 (by omega), e 1 (by omega), e 2 (by omega), e 3 (by omega)]

theorem lanes_step (l : Nat → Nat) (m : Nat) (h : ∀ j, j < 12 → l j < 65536) (hm : m < 12) : lanes l m (m / 4) ||| l m * 2 ^ (16 * (m % 4)) = lanes l (m + 1) (m / 4) := by
  have h4 : m % 4 < 4 := Nat.mod_lt _ (by omega)
  have hq : m / 4 * 4 + m % 4 = m := by omega
  obtain ⟨q, r, rfl, hr, e1, e2⟩ : ∃ q r, m = 4 * q + r ∧ r < 4 ∧ (4 * q + r) / 4 = q ∧ (4 * q + r) % 4 = r := ⟨m / 4, m % 4, by omega, h4, by omega, by omega⟩
  rw [e1, e2]
  have hl0 := h (4 * q)
  have hl1 := h (4 * q + 1)
  have hl2 := h (4 * q + 2)
  match r, hr with
  | 0, _ => simp only [lanes, Nat.add_assoc, Nat.add_lt_add_iff_left]; simp [four_or0]
  | 1, _ => simp only [lanes, Nat.add_assoc, Nat.add_lt_add_iff_left]; simp [four_or1 (hl0 (by omega))]
  | 2, _ => simp only [lanes, Nat.add_assoc, Nat.add_lt_add_iff_left]; simp [four_or2 (hl0 (by omega)) (hl1 (by omega))]
  | 3, _ => simp only [lanes, Nat.add_assoc, Nat.add_lt_add_iff_left]; simp [four_or3 (hl0 (by omega)) (hl1 (by omega)) (hl2 (by omega))]

theorem lanes_full (l : Nat → Nat) (k : Nat) (hk : k < 3) : lanes l 12 k = four (l (4 * k)) (l (4 * k + 1)) (l (4 * k + 2)) (l (4 * k + 3)) := by
  simp only [lanes, Nat.add_zero]
  rw [if_pos (by omega), if_pos (by omega), if_pos (by omega), if_pos (by omega)]

/-- The costs of the entries under four lanes, eightfold. -/
def word (en : Nat → Nat) (len : Nat → Nat → Nat) (a m k : Nat) : Nat :=
  four (8 * cst en (len (4 * k)) a m) (8 * cst en (len (4 * k + 1)) a m) (8 * cst en (len (4 * k + 2)) a m) (8 * cst en (len (4 * k + 3)) a m)

theorem word_zero (en : Nat → Nat) (len : Nat → Nat → Nat) (a k : Nat) : word en len a 0 k = 0 := by simp [word, cst, four]

theorem word_step (en : Nat → Nat) (len : Nat → Nat → Nat) (a m k : Nat) (hk : k < 3) :
    word en len a m k + lanes (fun ln => 8 * len ln (en (a + m) / 64)) 12 k * (en (a + m) % 64) = word en len a (m + 1) k := by
  rw [lanes_full _ _ hk]
  simp only [word, cst, four, Nat.add_mul, Nat.mul_add, Nat.mul_assoc]
  have c1 : ∀ x y z : Nat, x * (y * z) = z * (x * y) := fun x y z => by rw [← Nat.mul_assoc, Nat.mul_comm]
  have c2 : ∀ x y : Nat, x * y = y * x := Nat.mul_comm
  generalize en (a + m) % 64 = T
  generalize len (4 * k) (en (a + m) / 64) = A
  generalize len (4 * k + 1) (en (a + m) / 64) = B
  generalize len (4 * k + 2) (en (a + m) / 64) = C
  generalize len (4 * k + 3) (en (a + m) / 64) = D
  rw [show A * T = T * A from Nat.mul_comm _ _, show 65536 * T = T * 65536 from Nat.mul_comm _ _, show 4294967296 * T = T * 4294967296 from Nat.mul_comm _ _, show 281474976710656 * T = T * 281474976710656 from Nat.mul_comm _ _,
    ← Nat.mul_assoc B T, ← Nat.mul_assoc C T, ← Nat.mul_assoc D T, ← Nat.mul_assoc T B, ← Nat.mul_assoc T C, ← Nat.mul_assoc T D, Nat.mul_comm B T, Nat.mul_comm C T, Nat.mul_comm D T]
  generalize T * A = a', T * B = b', T * C = c', T * D = d'
  omega

theorem word_lt (en : Nat → Nat) (len : Nat → Nat → Nat) (a m k : Nat) (h : ∀ ln, ln < 12 → cst en (len ln) a m < 8192) (hk : k < 3) : word en len a m k < 18446744073709551616 :=
  four_lt (by have := h (4 * k) (by omega); omega) (by have := h (4 * k + 1) (by omega); omega) (by have := h (4 * k + 2) (by omega); omega) (by have := h (4 * k + 3) (by omega); omega)

/-- The numbers of the codes, lane by lane. -/
def num (k : Nat) : Nat := lanes (fun ln => ln % 6) 12 k

theorem num_eq (k : Nat) (hk : k < 3) : num k = four ((4 * k) % 6) ((4 * k + 1) % 6) ((4 * k + 2) % 6) ((4 * k + 3) % 6) := lanes_full _ _ hk

/-- A lane of a word of costs and numbers. -/
def ky (en : Nat → Nat) (len : Nat → Nat → Nat) (a m ln : Nat) : Nat := 8 * cst en (len ln) a m + ln % 6

def wordN (en : Nat → Nat) (len : Nat → Nat → Nat) (a m k : Nat) : Nat := four (ky en len a m (4 * k)) (ky en len a m (4 * k + 1)) (ky en len a m (4 * k + 2)) (ky en len a m (4 * k + 3))

theorem word_num (en : Nat → Nat) (len : Nat → Nat → Nat) (a m k : Nat) (h : ∀ ln, ln < 12 → cst en (len ln) a m < 8192) (hk : k < 3) : word en len a m k ||| num k = wordN en len a m k := by
  rw [num_eq k hk, word, four_or8 (h _ (by omega)) (h _ (by omega)) (h _ (by omega)) (by omega) (by omega) (by omega) (by omega)]
  rfl

theorem ky_lt (en : Nat → Nat) (len : Nat → Nat → Nat) (a m ln : Nat) (h : ∀ ln, ln < 12 → cst en (len ln) a m < 8192) (hl : ln < 12) : ky en len a m ln < 65536 := by
  have := h ln hl
  unfold ky; omega

/-- The least of a fit. -/
def least (en : Nat → Nat) (len : Nat → Nat → Nat) (a m f : Nat) : Nat := mn (key (fun t => cst en (len (6 * f + t)) a m)) 5

theorem least0 (en : Nat → Nat) (len : Nat → Nat → Nat) (a m : Nat) :
    least en len a m 0 = min (min (min (min (min (ky en len a m 0) (ky en len a m 1)) (ky en len a m 2)) (ky en len a m 3)) (ky en len a m 4)) (ky en len a m 5) := by
  simp [least, mn, key, ky]
theorem least1 (en : Nat → Nat) (len : Nat → Nat → Nat) (a m : Nat) :
    least en len a m 1 = min (min (min (min (min (ky en len a m 6) (ky en len a m 7)) (ky en len a m 8)) (ky en len a m 9)) (ky en len a m 10)) (ky en len a m 11) := by
  simp [least, mn, key, ky]

/-- The length at a lane: a code past the n is given 100. -/
def lenOf (n0 n1 : Nat) (L0 L1 : Nat → Nat → Nat) (ln s : Nat) : Nat :=
  if ln < 6 then (if ln < n0 then L0 ln s else 100) else (if ln - 6 < n1 then L1 (ln - 6) s else 100)

/-- The cheapest of n codes, as the least of the keys. -/
def best (en : Nat → Nat) (n : Nat) (L : Nat → Nat → Nat) (a m : Nat) : Nat := mn (key (fun t => cst en (L t) a m)) (n - 1)

theorem cst_congr (en len len' : Nat → Nat) (a : Nat) : ∀ m, (∀ j, j < m → len (en (a + j) / 64) = len' (en (a + j) / 64)) → cst en len a m = cst en len' a m
  | 0, _ => rfl
  | m + 1, h => by rw [cst, cst, cst_congr en len len' a m (fun j hj => h j (by omega)), h m (by omega)]

theorem fit_best (en : Nat → Nat) (n : Nat) (L len : Nat → Nat → Nat) (a m : Nat) (hn1 : 1 ≤ n) (hn6 : n ≤ 6) (hL : ∀ t s, t < n → s < 258 → L t s ≤ 100) (hs : ∀ j, j < m → en (a + j) / 64 < 258)
    (hl : ∀ t s, t < 6 → len t s = if t < n then L t s else 100) : mn (key (fun t => cst en (len t) a m)) 5 = best en n L a m := by
  have e1 : mn (key (fun t => cst en (len t) a m)) 5 = mn (key (fun t => if t < n then cst en (L t) a m else tot en a m * 100)) 5 := by
    apply mn_congr
    intro t ht
    unfold key
    by_cases h : t < n
    · simp only [h, if_true]
      rw [cst_congr en (len t) (L t) a m (fun j hj => by rw [hl t _ (by omega), if_pos h])]
    · simp only [h, if_false]
      rw [cst_congr en (len t) (fun _ => 100) a m (fun j hj => by rw [hl t _ (by omega), if_neg h]), cst_const]
  rw [e1]
  have e2 := mn_past (fun t => if t < n then cst en (L t) a m else tot en a m * 100) (n - 1) (6 - n) (by omega) (by
    intro t h1 h2
    rw [if_pos (by omega), if_neg (by omega)]
    exact cst_le en (L 0) a 100 m (fun j hj => hL 0 _ (by omega) (hs j hj)))
  rw [show n - 1 + (6 - n) = 5 by omega] at e2
  rw [e2, best]
  apply mn_congr
  intro t ht
  simp only [key]
  rw [if_pos (by omega)]

theorem least0_best (en : Nat → Nat) (n0 n1 : Nat) (L0 L1 : Nat → Nat → Nat) (a m : Nat) (hn1 : 1 ≤ n0) (hn6 : n0 ≤ 6) (hL : ∀ t s, t < n0 → s < 258 → L0 t s ≤ 100) (hs : ∀ j, j < m → en (a + j) / 64 < 258) :
    least en (lenOf n0 n1 L0 L1) a m 0 = best en n0 L0 a m :=
  fit_best en n0 L0 (fun t => lenOf n0 n1 L0 L1 (6 * 0 + t)) a m hn1 hn6 hL hs (fun t s ht => by simp [lenOf, ht])
theorem least1_best (en : Nat → Nat) (n0 n1 : Nat) (L0 L1 : Nat → Nat → Nat) (a m : Nat) (hn1 : 1 ≤ n1) (hn6 : n1 ≤ 6) (hL : ∀ t s, t < n1 → s < 258 → L1 t s ≤ 100) (hs : ∀ j, j < m → en (a + j) / 64 < 258) :
    least en (lenOf n0 n1 L0 L1) a m 1 = best en n1 L1 a m :=
  fit_best en n1 L1 (fun t => lenOf n0 n1 L0 L1 (6 * 1 + t)) a m hn1 hn6 hL hs (fun t s ht => by
    simp only [lenOf]; rw [if_neg (by omega), show 6 * 1 + t - 6 = t by omega])

/-- No lane overflows. -/
theorem lane_fits (en : Nat → Nat) (n0 n1 : Nat) (L0 L1 : Nat → Nat → Nat) (a m : Nat) (hL0 : ∀ t s, t < n0 → s < 258 → L0 t s ≤ 100) (hL1 : ∀ t s, t < n1 → s < 258 → L1 t s ≤ 100)
    (hs : ∀ j, j < m → en (a + j) / 64 < 258) (ht : tot en a m ≤ 81) (ln : Nat) : cst en (lenOf n0 n1 L0 L1 ln) a m < 8192 := by
  have h := cst_le en (lenOf n0 n1 L0 L1 ln) a 100 m (fun j hj => by
    have hsj := hs j hj
    unfold lenOf
    split
    · split
      · exact hL0 _ _ (by assumption) hsj
      · exact Nat.le_refl _
    · split
      · exact hL1 _ _ (by assumption) hsj
      · exact Nat.le_refl _)
  have : tot en a m * 100 ≤ 81 * 100 := Nat.mul_le_mul_right _ ht
  omega

/-! The moved counts. -/
/-- How often the first m entries from a on hold s. -/
def cnt (en : Nat → Nat) (a s : Nat) : Nat → Int
  | 0 => 0
  | m + 1 => cnt en a s m + if en (a + m) / 64 = s then ((en (a + m) % 64 : Nat) : Int) else 0

/-- The tally of the first g groups at code t, symbol s. -/
def tal (en st : Nat → Nat) (sel : Nat → Nat) (t s : Nat) : Nat → Int
  | 0 => 0
  | g + 1 => tal en st sel t s g + if sel g = t then cnt en (st g) s (st (g + 1) - st g) else 0

theorem tal_congr (en st : Nat → Nat) (sel sel' : Nat → Nat) (t s : Nat) : ∀ g, (∀ j, j < g → sel j = sel' j) → tal en st sel t s g = tal en st sel' t s g
  | 0, _ => rfl
  | g + 1, h => by rw [tal, tal, tal_congr en st sel sel' t s g (fun j hj => h j (by omega)), h g (by omega)]

end Go.Proofs.Qxb6601576a
