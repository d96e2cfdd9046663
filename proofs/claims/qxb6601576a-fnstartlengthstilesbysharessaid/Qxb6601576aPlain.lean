/-! THE PLAIN MATHEMATICS OF startLengths: no Go in sight. -/
namespace Go.Proofs.Qxb6601576a

/-- The counts below k. -/
def ps (C : Nat → Int) : Nat → Int
  | 0 => 0
  | k + 1 => ps C k + C k

/-- Every count of the 258 is between 0 and 2^22. -/
def Fits (C : Nat → Int) : Prop := ∀ i, i < 258 → 0 ≤ C i ∧ C i ≤ 4194304

theorem ps_mono {C : Nat → Int} (h : Fits C) {a b : Nat} (hab : a ≤ b) (hb : b ≤ 258) : ps C a ≤ ps C b := by
  induction b with
  | zero => have : a = 0 := by omega
            subst this; exact Int.le_refl _
  | succ b ih =>
    rcases Nat.lt_or_ge a (b + 1) with h1 | h1
    · have := ih (by omega) (by omega)
      have := (h b (by omega)).1
      simp only [ps]; omega
    · have : a = b + 1 := by omega
      subst this; exact Int.le_refl _
theorem ps_bound {C : Nat → Int} (h : Fits C) : ∀ b, b ≤ 258 → 0 ≤ ps C b ∧ ps C b ≤ 4194304 * b
  | 0, _ => by simp [ps]
  | b + 1, hb => by
    have := ps_bound h b (by omega)
    have := h b (by omega)
    simp only [ps]; omega

/-- The greedy end: from e on, while below 'alp' and the counts since f are below 'share'. -/
def grd (C : Nat → Int) (alp : Nat) (share : Int) (f : Nat) : Nat → Nat → Nat
  | 0, e => e
  | m + 1, e => if e < alp ∧ ps C e - ps C f < share then grd C alp share f m (e + 1) else e

theorem grd_stop {C : Nat → Int} {alp : Nat} {share : Int} {f m e : Nat} (h : ¬ (e < alp ∧ ps C e - ps C f < share)) : grd C alp share f m e = e := by
  cases m with
  | zero => rfl
  | succ m => rw [grd, if_neg h]
theorem grd_go {C : Nat → Int} {alp : Nat} {share : Int} {f e : Nat} (h1 : e < alp) (h2 : ps C e - ps C f < share) : grd C alp share f (alp - e) e = grd C alp share f (alp - (e + 1)) (e + 1) := by
  obtain ⟨m, hm⟩ : ∃ m, alp - e = m + 1 := ⟨alp - e - 1, by omega⟩
  rw [hm, grd, if_pos ⟨h1, h2⟩]
  congr 1
  omega
theorem grd_spec {C : Nat → Int} {alp : Nat} {share : Int} {f : Nat} : ∀ m e, m = alp - e → e ≤ alp → (∀ x, f ≤ x → x < e → ps C x - ps C f < share) →
    e ≤ grd C alp share f m e ∧ grd C alp share f m e ≤ alp ∧ (grd C alp share f m e < alp → share ≤ ps C (grd C alp share f m e) - ps C f) ∧ ∀ x, f ≤ x → x < grd C alp share f m e → ps C x - ps C f < share
  | 0, e, hm, he, hx => by
    have : e = alp := by omega
    subst this
    exact ⟨Nat.le_refl _, Nat.le_refl _, fun h => absurd h (Nat.lt_irrefl _), hx⟩
  | m + 1, e, hm, he, hx => by
    rw [grd]
    split
    · rename_i hc
      have := grd_spec (C := C) (alp := alp) (share := share) (f := f) m (e + 1) (by omega) (by omega) (fun x h1 h2 => by
        rcases Nat.lt_or_ge x e with h | h
        · exact hx x h1 h
        · have : x = e := by omega
          subst this; exact hc.2)
      exact ⟨by omega, this.2.1, this.2.2.1, this.2.2.2⟩
    · rename_i hc
      exact ⟨Nat.le_refl _, he, fun h => by
        rcases Int.lt_or_le (ps C e - ps C f) share with h' | h'
        · exact absurd ⟨h, h'⟩ hc
        · exact h', hx⟩

def share (C : Nat → Int) (n k f : Nat) : Int := (ps C 258 - ps C f) / ((n : Int) - k)
def greedy (C : Nat → Int) (alp n k f : Nat) : Nat := grd C alp (share C n k f) f (alp - f) f
/-- Is this range one short of its share? -/
def short (sb : Bool) (n k f g : Nat) : Bool := sb && decide (k % 2 = 1) && decide (k + 1 < n) && decide (f + 1 < g)
def nextEnd (C : Nat → Int) (alp n : Nat) (sb : Bool) (k f : Nat) : Nat :=
  if short sb n k f (greedy C alp n k f) then greedy C alp n k f - 1 else greedy C alp n k f
/-- Where the k-th range begins. -/
def E (C : Nat → Int) (alp n : Nat) (sb : Bool) : Nat → Nat
  | 0 => 0
  | k + 1 => nextEnd C alp n sb k (E C alp n sb k)

theorem greedy_spec (C : Nat → Int) (alp n k f : Nat) (hf : f ≤ alp) : f ≤ greedy C alp n k f ∧ greedy C alp n k f ≤ alp ∧
    (greedy C alp n k f < alp → share C n k f ≤ ps C (greedy C alp n k f) - ps C f) ∧ ∀ x, f ≤ x → x < greedy C alp n k f → ps C x - ps C f < share C n k f :=
  grd_spec (alp - f) f rfl hf (fun x h1 h2 => by omega)

theorem nextEnd_bd (C : Nat → Int) (alp n : Nat) (sb : Bool) (k f : Nat) (hf : f ≤ alp) : f ≤ nextEnd C alp n sb k f ∧ nextEnd C alp n sb k f ≤ alp := by
  have h := greedy_spec C alp n k f hf
  unfold nextEnd
  split
  · rename_i hs
    simp [short] at hs
    omega
  · exact ⟨h.1, h.2.1⟩
theorem E_le (C : Nat → Int) (alp n : Nat) (sb : Bool) : ∀ k, E C alp n sb k ≤ alp
  | 0 => Nat.zero_le _
  | k + 1 => (nextEnd_bd C alp n sb k _ (E_le C alp n sb k)).2
theorem E_step (C : Nat → Int) (alp n : Nat) (sb : Bool) (k : Nat) : E C alp n sb k ≤ E C alp n sb (k + 1) := (nextEnd_bd C alp n sb k _ (E_le C alp n sb k)).1
theorem E_mono (C : Nat → Int) (alp n : Nat) (sb : Bool) {a b : Nat} (h : a ≤ b) : E C alp n sb a ≤ E C alp n sb b := by
  induction b with
  | zero => have : a = 0 := by omega
            subst this; exact Nat.le_refl _
  | succ b ih =>
    rcases Nat.lt_or_ge a (b + 1) with h1 | h1
    · exact Nat.le_trans (ih (by omega)) (E_step C alp n sb b)
    · have : a = b + 1 := by omega
      subst this; exact Nat.le_refl _

/-- The length of symbol s in code t, the first k ranges laid. -/
def lenAt (C : Nat → Int) (alp n : Nat) (sb : Bool) (k t s : Nat) : Int :=
  if n ≤ t + k ∧ t < n ∧ s < alp ∧ ¬ (E C alp n sb (n - 1 - t) ≤ s ∧ s < E C alp n sb (n - t)) then 15 else 0

/-- .. and of the next code the symbols below j. -/
def lenMid (C : Nat → Int) (alp n : Nat) (sb : Bool) (k j t s : Nat) : Int :=
  if t + 1 + k = n ∧ s < j then (if E C alp n sb k ≤ s ∧ s < E C alp n sb (k + 1) then 0 else 15) else lenAt C alp n sb k t s

theorem lenMid_zero (C : Nat → Int) (alp n : Nat) (sb : Bool) (k t s : Nat) : lenMid C alp n sb k 0 t s = lenAt C alp n sb k t s := by
  unfold lenMid; rw [if_neg (by omega)]
theorem lenMid_full (C : Nat → Int) (alp n : Nat) (sb : Bool) (k t s : Nat) (_hk : k < n) : lenMid C alp n sb k alp t s = lenAt C alp n sb (k + 1) t s := by
  unfold lenMid lenAt
  by_cases ht : t + 1 + k = n
  · have e1 : n - 1 - t = k := by omega
    have e2 : n - t = k + 1 := by omega
    rw [e1, e2]
    by_cases hs : s < alp
    · rw [if_pos ⟨ht, hs⟩]
      by_cases hin : E C alp n sb k ≤ s ∧ s < E C alp n sb (k + 1)
      · rw [if_pos hin, if_neg (by intro h; exact h.2.2.2 hin)]
      · rw [if_neg hin, if_pos ⟨by omega, by omega, hs, hin⟩]
    · rw [if_neg (by omega), if_neg (by omega), if_neg (by omega)]
  · rw [if_neg (by omega)]
    by_cases h : n ≤ t + k
    · simp only [h, true_and, show n ≤ t + (k + 1) by omega]
    · rw [if_neg (by omega), if_neg (by omega)]
theorem lenMid_lt (C : Nat → Int) (alp n : Nat) (sb : Bool) (k j t s : Nat) (ht : t + 1 + k = n) (hs : s < j) : lenMid C alp n sb k j t s = if E C alp n sb k ≤ s ∧ s < E C alp n sb (k + 1) then 0 else 15 := by
  unfold lenMid; rw [if_pos (show t + 1 + k = n ∧ s < j from ⟨ht, hs⟩)]
theorem lenMid_ge (C : Nat → Int) (alp n : Nat) (sb : Bool) (k j t s : Nat) (h : ¬ (t + 1 + k = n ∧ s < j)) : lenMid C alp n sb k j t s = lenAt C alp n sb k t s := by
  unfold lenMid; rw [if_neg h]
theorem lenMid_in (C : Nat → Int) (alp n : Nat) (sb : Bool) (k j t s : Nat) (h : E C alp n sb k ≤ j ∧ j < E C alp n sb (k + 1)) : lenMid C alp n sb k (j + 1) t s = lenMid C alp n sb k j t s := by
  by_cases ht : t + 1 + k = n
  · by_cases hs : s < j
    · rw [lenMid_lt C alp n sb k (j + 1) t s ht (by omega), lenMid_lt C alp n sb k j t s ht hs]
    · by_cases hs' : s = j
      · subst hs'
        rw [lenMid_lt C alp n sb k (s + 1) t s ht (by omega), lenMid_ge C alp n sb k s t s (by omega), if_pos h]
        unfold lenAt
        rw [if_neg (by omega)]
      · rw [lenMid_ge C alp n sb k (j + 1) t s (by omega), lenMid_ge C alp n sb k j t s (by omega)]
  · rw [lenMid_ge C alp n sb k (j + 1) t s (by omega), lenMid_ge C alp n sb k j t s (by omega)]
theorem lenMid_out (C : Nat → Int) (alp n : Nat) (sb : Bool) (k j t s : Nat) (h : ¬ (E C alp n sb k ≤ j ∧ j < E C alp n sb (k + 1))) :
    lenMid C alp n sb k (j + 1) t s = if t + 1 + k = n ∧ s = j then 15 else lenMid C alp n sb k j t s := by
  by_cases ht : t + 1 + k = n
  · by_cases hs' : s = j
    · subst hs'
      rw [lenMid_lt C alp n sb k (s + 1) t s ht (by omega), if_pos (show t + 1 + k = n ∧ s = s from ⟨ht, rfl⟩), if_neg h]
    · rw [if_neg (show ¬ (t + 1 + k = n ∧ s = j) by omega)]
      by_cases hs : s < j
      · rw [lenMid_lt C alp n sb k (j + 1) t s ht (by omega), lenMid_lt C alp n sb k j t s ht hs]
      · rw [lenMid_ge C alp n sb k (j + 1) t s (by omega), lenMid_ge C alp n sb k j t s (by omega)]
  · rw [lenMid_ge C alp n sb k (j + 1) t s (by omega), lenMid_ge C alp n sb k j t s (by omega), if_neg (show ¬ (t + 1 + k = n ∧ s = j) by omega)]

/-- In how many of the first t codes is symbol s free? -/
def cntF (C : Nat → Int) (alp n : Nat) (sb : Bool) (s : Nat) : Nat → Int
  | 0 => 0
  | t + 1 => cntF C alp n sb s t + if lenAt C alp n sb n t s = 0 then 1 else 0

theorem lenAt_zero_iff (C : Nat → Int) (alp n : Nat) (sb : Bool) (t s : Nat) (ht : t < n) (hs : s < alp) : lenAt C alp n sb n t s = 0 ↔ E C alp n sb (n - 1 - t) ≤ s ∧ s < E C alp n sb (n - t) := by
  unfold lenAt
  by_cases h : E C alp n sb (n - 1 - t) ≤ s ∧ s < E C alp n sb (n - t)
  · rw [if_neg (fun hh => hh.2.2.2 h)]; simp [h]
  · rw [if_pos ⟨by omega, ht, hs, h⟩]; simp [h]
theorem cntF_eq (C : Nat → Int) (alp n : Nat) (sb : Bool) (s : Nat) (hs : s < alp) : ∀ t, t ≤ n → cntF C alp n sb s t = if E C alp n sb (n - t) ≤ s ∧ s < E C alp n sb n then 1 else 0
  | 0, _ => by rw [cntF, if_neg (by simp)]
  | t + 1, ht => by
    rw [cntF, cntF_eq C alp n sb s hs t (by omega)]
    have e1 : n - (t + 1) = n - 1 - t := by omega
    rw [e1]
    have hz := lenAt_zero_iff C alp n sb t s (by omega) hs
    have m1 := E_mono C alp n sb (show n - 1 - t ≤ n - t by omega)
    have m2 := E_mono C alp n sb (show n - t ≤ n by omega)
    by_cases h1 : E C alp n sb (n - t) ≤ s
    · rw [if_neg (show ¬ lenAt C alp n sb n t s = 0 by rw [hz]; omega)]
      by_cases h2 : s < E C alp n sb n
      · rw [if_pos ⟨h1, h2⟩, if_pos ⟨by omega, h2⟩]; rfl
      · rw [if_neg (by omega), if_neg (by omega)]; rfl
    · by_cases h3 : E C alp n sb (n - 1 - t) ≤ s
      · rw [if_pos (show lenAt C alp n sb n t s = 0 by rw [hz]; omega), if_neg (by omega), if_pos ⟨h3, by omega⟩]; rfl
      · rw [if_neg (show ¬ lenAt C alp n sb n t s = 0 by rw [hz]; omega), if_neg (by omega), if_neg (by omega)]; rfl

/-- Every counted symbol below 'alp' lies below the last end. -/
theorem counted_below {C : Nat → Int} (hF : Fits C) (alp n : Nat) (sb : Bool) (ha : alp ≤ 258) (hn : 1 ≤ n) (s : Nat) (hs : s < alp) (hc : 0 < C s) : s < E C alp n sb n := by
  obtain ⟨k, rfl⟩ : ∃ k, n = k + 1 := ⟨n - 1, by omega⟩
  have hf := E_le C alp (k + 1) sb k
  have hg := greedy_spec C alp (k + 1) k (E C alp (k + 1) sb k) hf
  have e : E C alp (k + 1) sb (k + 1) = greedy C alp (k + 1) k (E C alp (k + 1) sb k) := by
    rw [E, nextEnd, if_neg]; simp [short]
  rw [e]
  rcases Nat.lt_or_ge s (greedy C alp (k + 1) k (E C alp (k + 1) sb k)) with h | h
  · exact h
  · have h1 := hg.2.2.1 (by omega)
    have h2 : share C (k + 1) k (E C alp (k + 1) sb k) = ps C 258 - ps C (E C alp (k + 1) sb k) := by
      unfold share
      rw [show (((k + 1 : Nat) : Int) - (k : Int)) = 1 by omega]
      exact Int.ediv_one _
    have h3 := ps_mono hF h (show s ≤ 258 by omega)
    have h4 := ps_mono hF (show s + 1 ≤ 258 by omega) (Nat.le_refl _)
    have e5 : ps C (s + 1) = ps C s + C s := rfl
    rw [e5] at h4
    omega
end Go.Proofs.Qxb6601576a
