import Derived.Test.Qxb6601576aState5
namespace Go.Proofs.Qxb6601576a
open Go.RowKit

/-- The new selector of group g in fit f; the bits of the first g groups; what has moved. -/
def nw (E st n : Nat → Nat) (L : Nat → Nat → Nat → Nat) (f g : Nat) : Nat := least E (lenF n L) (st g) (st (g + 1) - st g) f % 8
def bsm (E st n : Nat → Nat) (L : Nat → Nat → Nat → Nat) (f : Nat) : Nat → Nat
  | 0 => 0
  | g + 1 => bsm E st n L f g + least E (lenF n L) (st g) (st (g + 1) - st g) f / 8
def dl (E st n : Nat → Nat) (L : Nat → Nat → Nat → Nat) (S : Nat → Nat → Nat) (p g : Nat) : Int := tl E st (nw E st n L 0) (nw E st n L 1) p g - tl E st (S 0) (S 1) p g

/-- What choose leaves. -/
def ChooseSays (lo hi : Nat) (w : World) (sb n : Nat → Nat) (L : Nat → Nat → Nat → Nat) (G : Nat) (S : Nat → Nat → Nat) (E st : Nat → Nat) (fp : Option Nat) (A : Nat → Int) (e : Ending) (w' : World) : Prop :=
  e = .returned (.agg #[.int .i64 (bsm E st n L 0 G : Nat), .int .i64 (bsm E st n L 1 G : Nat)]) ∧ Mid lo hi w w' ∧
  (∀ f, f < 2 → 0 < G → w'.rowIs (sb f) 5 G (fun i => .int .u8 (nw E st n L f i : Nat))) ∧
  (∀ bf, fp = some bf → w'.rowIs bf 34 3096 (fun p => .int .i64 (wrap64 (A p + dl E st n L S p G))))

/-- The selectors, where fit f has chosen for g f groups. -/
def slA (E st n : Nat → Nat) (L : Nat → Nat → Nat → Nat) (S : Nat → Nat → Nat) (g : Nat → Nat) (f i : Nat) : Nat := if i < g f then nw E st n L f i else S f i

theorem cost_wrap (E : Nat → Nat) (len : Nat → Nat → Nat) (a j k : Nat) (hk : k < 3) (h : word E len a (j + 1) k < 18446744073709551616) :
    IntKind.u64.wrap ((word E len a j k : Nat) + IntKind.u64.wrap ((lanes (fun ln => 8 * len ln (E (a + j) / 64)) 12 k : Nat) * (((E (a + j) : Nat) : Int) % 64))) = ((word E len a (j + 1) k : Nat) : Int) := by
  have hs := word_step E len a j k hk
  rw [wrap_u64, wrap_u64, Int.add_emod_emod]
  have e : ((word E len a j k : Nat) : Int) + (lanes (fun ln => 8 * len ln (E (a + j) / 64)) 12 k : Nat) * (((E (a + j) : Nat) : Int) % 64) = ((word E len a (j + 1) k : Nat) : Int) := by
    rw [← hs]; simp
  rw [e, Int.emod_eq_of_lt (by omega) (by omega)]

theorem cast_min (a b : Nat) : ((min a b : Nat) : Int) = min (a : Int) b := by omega
/-- The least of six. -/
def m6 (a b c d e f : Int) : Int := min (min (min (min (min a b) c) d) e) f
theorem m6_cast (a b c d e f : Nat) : m6 a b c d e f = ((min (min (min (min (min a b) c) d) e) f : Nat) : Int) := by
  rw [m6, cast_min, cast_min, cast_min, cast_min, cast_min]
theorem min_if (x y : Int) : (if y < x then y else x) = min x y := by
  by_cases h : y < x
  · rw [if_pos h, Int.min_eq_right (by omega)]
  · rw [if_neg h, Int.min_eq_left (by omega)]
theorem run_min6 (ts : Array TypeId) (t : TypeId) (a b c d e f : Int) (w : World) : (Builtin.min_ ts t #[.int .u64 a, .int .u64 b, .int .u64 c, .int .u64 d, .int .u64 e, .int .u64 f]).run Try.prog w = .ok (.int .u64 (m6 a b c d e f)) w := by
  simp only [m6, ← min_if]
  simp [Builtin.min_, Builtin.min2]

/-- The least of a fit, as the words' lanes give it. -/
theorem m6_zero (E : Nat → Nat) (len : Nat → Nat → Nat) (a m : Nat) (h : ∀ ln, ln < 12 → cst E (len ln) a m < 8192) (x y : Nat) (hx : x = wordN E len a m 0) (hy : y = wordN E len a m 1) :
    m6 ((x : Int) % 65536) ((x : Int) / 65536 % 65536) ((x : Int) / 4294967296 % 65536) ((x : Int) / 281474976710656) ((y : Int) % 65536) ((y : Int) / 65536 % 65536) = (least E len a m 0 : Nat) := by
  have hk : ∀ ln, ln < 12 → ky E len a m ln < 65536 := fun ln hl => ky_lt E len a m ln h hl
  have e0 : x % 65536 = ky E len a m 0 := by rw [hx]; exact four_l0 (hk 0 (by omega))
  have e1 : x / 65536 % 65536 = ky E len a m 1 := by rw [hx]; exact four_l1 (hk 0 (by omega)) (hk 1 (by omega))
  have e2 : x / 4294967296 % 65536 = ky E len a m 2 := by rw [hx]; exact four_l2 (hk 0 (by omega)) (hk 1 (by omega)) (hk 2 (by omega))
  have e3 : x / 281474976710656 = ky E len a m 3 := by rw [hx]; exact four_l3 (hk 0 (by omega)) (hk 1 (by omega)) (hk 2 (by omega))
  have e4 : y % 65536 = ky E len a m 4 := by rw [hy]; exact four_l0 (hk 4 (by omega))
  have e5 : y / 65536 % 65536 = ky E len a m 5 := by rw [hy]; exact four_l1 (hk 4 (by omega)) (hk 5 (by omega))
  rw [least0, ← e0, ← e1, ← e2, ← e3, ← e4, ← e5, ← m6_cast]
  congr 1 <;> omega
theorem m6_one (E : Nat → Nat) (len : Nat → Nat → Nat) (a m : Nat) (h : ∀ ln, ln < 12 → cst E (len ln) a m < 8192) (y z : Nat) (hy : y = wordN E len a m 1) (hz : z = wordN E len a m 2) :
    m6 ((y : Int) / 4294967296 % 65536) ((y : Int) / 281474976710656) ((z : Int) % 65536) ((z : Int) / 65536 % 65536) ((z : Int) / 4294967296 % 65536) ((z : Int) / 281474976710656) = (least E len a m 1 : Nat) := by
  have hk : ∀ ln, ln < 12 → ky E len a m ln < 65536 := fun ln hl => ky_lt E len a m ln h hl
  have e0 : y / 4294967296 % 65536 = ky E len a m 6 := by rw [hy]; exact four_l2 (hk 4 (by omega)) (hk 5 (by omega)) (hk 6 (by omega))
  have e1 : y / 281474976710656 = ky E len a m 7 := by rw [hy]; exact four_l3 (hk 4 (by omega)) (hk 5 (by omega)) (hk 6 (by omega))
  have e2 : z % 65536 = ky E len a m 8 := by rw [hz]; exact four_l0 (hk 8 (by omega))
  have e3 : z / 65536 % 65536 = ky E len a m 9 := by rw [hz]; exact four_l1 (hk 8 (by omega)) (hk 9 (by omega))
  have e4 : z / 4294967296 % 65536 = ky E len a m 10 := by rw [hz]; exact four_l2 (hk 8 (by omega)) (hk 9 (by omega)) (hk 10 (by omega))
  have e5 : z / 281474976710656 = ky E len a m 11 := by rw [hz]; exact four_l3 (hk 8 (by omega)) (hk 9 (by omega)) (hk 10 (by omega))
  rw [least1, ← e0, ← e1, ← e2, ← e3, ← e4, ← e5, ← m6_cast]
  congr 1 <;> omega
theorem wordN_lt (E : Nat → Nat) (len : Nat → Nat → Nat) (a m k : Nat) (h : ∀ ln, ln < 12 → cst E (len ln) a m < 8192) (hk : k < 3) : wordN E len a m k < 18446744073709551616 :=
  four_lt (ky_lt E len a m _ h (by omega)) (ky_lt E len a m _ h (by omega)) (ky_lt E len a m _ h (by omega)) (ky_lt E len a m _ h (by omega))
theorem num_lt (k : Nat) (hk : k < 3) : num k < 18446744073709551616 := by rw [num_eq k hk]; exact four_lt (by omega) (by omega) (by omega) (by omega)
theorem or_word (E : Nat → Nat) (len : Nat → Nat → Nat) (a m k : Nat) (h : ∀ ln, ln < 12 → cst E (len ln) a m < 8192) (hk : k < 3) : bits .or .u64 (word E len a m k : Nat) (num k : Nat) = ((wordN E len a m k : Nat) : Int) := by
  rw [u64_or_nat _ _ (word_lt E len a m k h hk) (num_lt k hk), word_num E len a m k h hk]
theorem and_lane (x : Nat) (hx : x < 18446744073709551616) (c : Int) (hc : c = 1 ∨ c = 65536 ∨ c = 4294967296) : bits .and .u64 ((x : Int) / c) 65535 = (x : Int) / c % 65536 := by
  rcases hc with rfl | rfl | rfl
  · have := u64_and65535 x hx
    rw [Int.ediv_one, this]; omega
  · have := u64_and65535 (x / 65536) (by omega)
    rw [show (x : Int) / 65536 = ((x / 65536 : Nat) : Int) by omega, this]; omega
  · have := u64_and65535 (x / 4294967296) (by omega)
    rw [show (x : Int) / 4294967296 = ((x / 4294967296 : Nat) : Int) by omega, this]; omega

/-- What group k moves, after j of its entries. -/
def mv (E st n : Nat → Nat) (L : Nat → Nat → Nat → Nat) (S : Nat → Nat → Nat) (f k j p : Nat) : Int :=
  if p / 1548 = f then (if nw E st n L f k = p % 1548 / 258 then cnt E (st k) (p % 258) j else 0) - (if S f k = p % 1548 / 258 then cnt E (st k) (p % 258) j else 0) else 0

theorem mv_zero (E st n : Nat → Nat) (L : Nat → Nat → Nat → Nat) (S : Nat → Nat → Nat) (f k p : Nat) : mv E st n L S f k 0 p = 0 := by simp [mv, cnt]
theorem mv_same (E st n : Nat → Nat) (L : Nat → Nat → Nat → Nat) (S : Nat → Nat → Nat) (f k j p : Nat) (h : nw E st n L f k = S f k) : mv E st n L S f k j p = 0 := by simp [mv, h]

theorem dl_step (E st n : Nat → Nat) (L : Nat → Nat → Nat → Nat) (S : Nat → Nat → Nat) (p k : Nat) (hp : p < 3096) : dl E st n L S p (k + 1) = dl E st n L S p k + mv E st n L S (p / 1548) k (st (k + 1) - st k) p := by
  unfold dl mv tl
  rw [if_pos rfl]
  by_cases h : p < 1548
  · have e : p / 1548 = 0 := by omega
    simp only [if_pos h, e, tal]
    omega
  · have e : p / 1548 = 1 := by omega
    simp only [if_neg h, e, tal]
    omega

theorem mv_step (E st n : Nat → Nat) (L : Nat → Nat → Nat → Nat) (S : Nat → Nat → Nat) (f k j p : Nat) (h0 : S f k < 6) (h1 : nw E st n L f k < 6) (hs : E (st k + j) / 64 < 258) :
    mv E st n L S f k (j + 1) p = mv E st n L S f k j p + (if p = f * 1548 + nw E st n L f k * 258 + E (st k + j) / 64 then ((E (st k + j) % 64 : Nat) : Int) else 0) - (if p = f * 1548 + S f k * 258 + E (st k + j) / 64 then ((E (st k + j) % 64 : Nat) : Int) else 0) := by
  have key : ∀ x, x < 6 → (if p / 1548 = f then (if x = p % 1548 / 258 then cnt E (st k) (p % 258) (j + 1) else 0) else 0) = (if p / 1548 = f then (if x = p % 1548 / 258 then cnt E (st k) (p % 258) j else 0) else 0) + (if p = f * 1548 + x * 258 + E (st k + j) / 64 then ((E (st k + j) % 64 : Nat) : Int) else 0) := by
    intro x hx
    rw [cnt]
    by_cases hpf : p / 1548 = f
    · rw [if_pos hpf, if_pos hpf]
      by_cases hxt : x = p % 1548 / 258
      · rw [if_pos hxt, if_pos hxt]
        by_cases hss : E (st k + j) / 64 = p % 258
        · rw [if_pos hss, if_pos (by omega)]
        · rw [if_neg hss, if_neg (by omega)]
      · rw [if_neg hxt, if_neg hxt, if_neg (by omega)]; rfl
    · rw [if_neg hpf, if_neg hpf, if_neg (by omega)]; rfl
  have k1 := key (nw E st n L f k) h1
  have k2 := key (S f k) h0
  unfold mv
  by_cases hpf : p / 1548 = f
  · rw [if_pos hpf] at k1 k2 ⊢
    rw [if_pos hpf] at k1 k2 ⊢
    rw [k1, k2]
    omega
  · rw [if_neg hpf] at k1 k2 ⊢
    rw [if_neg hpf] at k1 k2 ⊢
    omega

theorem nw_lt (E st n : Nat → Nat) (L : Nat → Nat → Nat → Nat) (f k : Nat) : nw E st n L f k < 6 := by
  have := mn_mod (fun t => cst E (lenF n L (6 * f + t)) (st k) (st (k + 1) - st k)) 5 (by omega)
  unfold nw least
  omega

theorem bsm_le (E st n : Nat → Nat) (L : Nat → Nat → Nat → Nat) (f : Nat) : ∀ k, (∀ g, g < k → least E (lenF n L) (st g) (st (g + 1) - st g) f < 65536) → bsm E st n L f k ≤ 8192 * k
  | 0, _ => by simp [bsm]
  | k + 1, h => by
    have h1 := bsm_le E st n L f k (fun g hg => h g (by omega))
    have h2 := h k (by omega)
    rw [bsm]
    omega

theorem slA_at (E st n : Nat → Nat) (L : Nat → Nat → Nat → Nat) (S : Nat → Nat → Nat) (g : Nat → Nat) (f i q : Nat) (h : g f = q) : slA E st n L S g f i = if i < q then nw E st n L f i else S f i := by subst h; rfl
theorem slA_set (E st n : Nat → Nat) (L : Nat → Nat → Nat → Nat) (S : Nat → Nat → Nat) (f k x : Nat) (hx : x = nw E st n L f k) (f' i : Nat) :
    (if f' = f ∧ i = k then x else slA E st n L S (fun f' => if f' < f then k + 1 else k) f' i) = slA E st n L S (fun f' => if f' < f + 1 then k + 1 else k) f' i := by
  by_cases e1 : f' = f
  · rw [slA_at _ _ _ _ _ (fun f' => if f' < f then k + 1 else k) f' i k (if_neg (by omega)), slA_at _ _ _ _ _ (fun f' => if f' < f + 1 then k + 1 else k) f' i (k + 1) (if_pos (by omega))]
    subst e1
    by_cases e2 : i = k
    · rw [if_pos ⟨rfl, e2⟩, if_pos (by omega), hx, e2]
    · rw [if_neg (fun h => e2 h.2)]
      by_cases e3 : i < k
      · rw [if_pos e3, if_pos (by omega)]
      · rw [if_neg e3, if_neg (by omega)]
  · rw [if_neg (fun h => e1 h.1)]
    by_cases e2 : f' < f
    · rw [slA_at _ _ _ _ _ (fun f' => if f' < f then k + 1 else k) f' i (k + 1) (if_pos e2), slA_at _ _ _ _ _ (fun f' => if f' < f + 1 then k + 1 else k) f' i (k + 1) (if_pos (by omega))]
    · rw [slA_at _ _ _ _ _ (fun f' => if f' < f then k + 1 else k) f' i k (if_neg e2), slA_at _ _ _ _ _ (fun f' => if f' < f + 1 then k + 1 else k) f' i k (if_neg (by omega))]

theorem Mid.weaken {lo hi : Nat} {w wr : World} (h : Mid w.heap.size w.heap.size w wr) (h1 : lo ≤ hi) (h2 : hi ≤ w.heap.size) : Mid lo hi w wr := ⟨h.below.mono (by omega), fun b _ hs => h.below.block b hs⟩
theorem Pk.weaken {lo hi : Nat} {w wr : World} {fb : Nat → Nat} {Z : Array Value} {nm : Nat → Nat} {pk : Nat → Nat → Nat} (h : Pk w.heap.size w.heap.size w wr fb Z nm pk) (h1 : lo ≤ hi) (h2 : hi ≤ w.heap.size) : Pk lo hi w wr fb Z nm pk := ⟨h.mid.weaken h1 h2, h.fits, h.res, h.pack, h.nums⟩

end Go.Proofs.Qxb6601576a
