import Derived.Test.Qxb6601576aOf5
namespace Go.Proofs.Qxb6601576a
open Go.RowKit

/-- The length at lane ln = 6*f + t. -/
def lenF (n : Nat → Nat) (L : Nat → Nat → Nat → Nat) (ln s : Nat) : Nat := if ln % 6 < n (ln / 6) then L (ln / 6) (ln % 6) s else 100

theorem lenF_best (en : Nat → Nat) (n : Nat → Nat) (L : Nat → Nat → Nat → Nat) (a m f : Nat) (hn1 : 1 ≤ n f) (hn6 : n f ≤ 6) (hL : ∀ t s, t < n f → s < 258 → L f t s ≤ 100) (hs : ∀ j, j < m → en (a + j) / 64 < 258) :
    least en (lenF n L) a m f = best en (n f) (L f) a m :=
  fit_best en (n f) (L f) (fun t => lenF n L (6 * f + t)) a m hn1 hn6 hL hs (fun t s ht => by
    simp only [lenF]; rw [show (6 * f + t) % 6 = t by omega, show (6 * f + t) / 6 = f by omega])

theorem lenF_le (n : Nat → Nat) (L : Nat → Nat → Nat → Nat) (hL : ∀ f t s, f < 2 → t < n f → s < 258 → L f t s ≤ 100) (ln s : Nat) (hl : ln < 12) (hs : s < 258) : lenF n L ln s ≤ 100 := by
  unfold lenF
  split
  · exact hL _ _ _ (by omega) (by assumption) hs
  · exact Nat.le_refl _

theorem laneF_fits (en : Nat → Nat) (n : Nat → Nat) (L : Nat → Nat → Nat → Nat) (a m : Nat) (hL : ∀ f t s, f < 2 → t < n f → s < 258 → L f t s ≤ 100)
    (hs : ∀ j, j < m → en (a + j) / 64 < 258) (ht : tot en a m ≤ 81) (ln : Nat) (hl : ln < 12) : cst en (lenF n L ln) a m < 8192 := by
  have h := cst_le en (lenF n L ln) a 100 m (fun j hj => lenF_le n L hL ln _ hl (hs j hj))
  have : tot en a m * 100 ≤ 81 * 100 := Nat.mul_le_mul_right _ ht
  omega

/-- A step of the packing. -/
theorem pack_step (l : Nat → Nat) (m : Nat) (h : ∀ j, j < 12 → l j < 65536) (hm : m < 12) (k : Nat) : (if k = m / 4 then lanes l m (m / 4) ||| l m * 2 ^ (16 * (m % 4)) else lanes l m k) = lanes l (m + 1) k := by
  by_cases hk : k = m / 4
  · rw [if_pos hk, lanes_step l m h hm, hk]
  · rw [if_neg hk, lanes_other l m k (fun e => hk e.symm)]

theorem lanes_lt (l : Nat → Nat) (m k : Nat) (h : ∀ j, j < 12 → l j < 65536) (hk : k < 3) : lanes l m k < 18446744073709551616 := by
  have hv : ∀ j, j < 4 → (if 4 * k + j < m then l (4 * k + j) else 0) < 65536 := fun j hj => by
    split
    · exact h _ (by omega)
    · omega
  exact four_lt (hv 0 (by omega)) (hv 1 (by omega)) (hv 2 (by omega)) (hv 3 (by omega))

theorem lane_lt (v m : Nat) (hv : v < 65536) : v * 2 ^ (16 * (m % 4)) < 18446744073709551616 := by
  have h4 : m % 4 < 4 := Nat.mod_lt _ (by omega)
  have hp : 2 ^ (16 * (m % 4)) ≤ 281474976710656 := by
    have : (2 : Nat) ^ (16 * (m % 4)) ≤ 2 ^ 48 := Nat.pow_le_pow_right (by omega) (by omega)
    exact this
  have : v * 2 ^ (16 * (m % 4)) ≤ 65535 * 281474976710656 := Nat.mul_le_mul (by omega) hp
  omega

theorem Try.zinfo71 : (Try.prog.info? 71).map (fun i => (i.zero, i.size)) = some (some (.agg (Array.replicate 774 (.int .u64 0))), 774) := by kernel_rfl
theorem Try.zinfo70 : (Try.prog.info? 70).map (fun i => (i.zero, i.size)) = some (some (.agg #[.int .u64 0, .int .u64 0, .int .u64 0]), 3) := by kernel_rfl
theorem Try.zinfo43 : (Try.prog.info? 43).map (fun i => (i.zero, i.size)) = some (some (.agg #[.int .i64 0, .int .i64 0]), 2) := by kernel_rfl
theorem Try.zinfo64 : (Try.prog.info? 64).map (fun i => (i.zero, i.size)) = some (some (.agg #[.pointer none, .pointer none]), 2) := by kernel_rfl
theorem Try.zinfo73 : (Try.prog.info? 73).map (fun i => (i.zero, i.size)) = some (some (.agg #[.int .u64 0, .int .u64 0]), 2) := by kernel_rfl
theorem zero71 (w : World) : (zeroValue 71).run Try.prog w = .ok (.agg (Array.replicate 774 (.int .u64 0))) w := (zero_of_info Try.zinfo71).1 w
theorem zero70 (w : World) : (zeroValue 70).run Try.prog w = .ok (.agg #[.int .u64 0, .int .u64 0, .int .u64 0]) w := (zero_of_info Try.zinfo70).1 w
theorem zero43 (w : World) : (zeroValue 43).run Try.prog w = .ok (.agg #[.int .i64 0, .int .i64 0]) w := (zero_of_info Try.zinfo43).1 w
theorem zero73 (w : World) : (zeroValue 73).run Try.prog w = .ok (.agg #[.int .u64 0, .int .u64 0]) w := (zero_of_info Try.zinfo73).1 w

/-- The array of the two fits. -/
def fv (fb : Nat → Nat) : Array Value := #[.pointer (some ⟨fb 0, 0, none⟩), .pointer (some ⟨fb 1, 0, none⟩)]
theorem Try.info57 : (Try.prog.info? 57).map (fun i => (i.zero, i.size)) = some (some (.pointer none), 1) := by kernel_rfl
theorem index_fv (fb : Nat → Nat) (f : Nat) (hf : f < 2) (w : World) : (Instr.index 64 (.agg (fv fb)) (.int .i64 (f : Nat))).run Try.prog w = .ok (.pointer (some ⟨fb f, 0, none⟩)) w := by
  obtain rfl | rfl : f = 0 ∨ f = 1 := by omega
  · kernel_rfl
  · kernel_rfl
end Go.Proofs.Qxb6601576a
