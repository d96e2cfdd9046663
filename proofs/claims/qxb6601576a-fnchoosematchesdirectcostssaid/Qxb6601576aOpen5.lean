import Derived.Test.Qxb6601576aZz5
import Derived.Test.Qxb6601576aEq5
import Derived.ProofKit
import Derived.OpenShut
import Derived.ChangeOld
import Derived.Below
import Derived.ChangeSlices
namespace Go.Proofs.Qxb6601576a
open Go.ChangeShapes Go.WideShapes Go.ChangeAt Go.RowKit

theorem wf_u8 {n : Int} (h : (Lit.int .u8 n).wf = true) : 0 ≤ n ∧ n < 256 := by
  simp [Lit.wf, IntKind.min, IntKind.max, IntKind.bits, IntKind.signed] at h; omega
theorem wf_u16 {n : Int} (h : (Lit.int .u16 n).wf = true) : 0 ≤ n ∧ n < 65536 := by
  simp [Lit.wf, IntKind.min, IntKind.max, IntKind.bits, IntKind.signed] at h; omega
theorem wf_i32 {n : Int} (h : (Lit.int .i32 n).wf = true) : -2147483648 ≤ n ∧ n ≤ 2147483647 := by
  simp [Lit.wf, IntKind.min, IntKind.max, IntKind.bits, IntKind.signed] at h; omega
theorem wf_i64 {n : Int} (h : (Lit.int .i64 n).wf = true) : -9223372036854775808 ≤ n ∧ n ≤ 9223372036854775807 := by
  simp [Lit.wf, IntKind.min, IntKind.max, IntKind.bits, IntKind.signed] at h; omega

theorem add_none5 (b off i : Nat) : (⟨b, off, none⟩ : Addr).add i = ⟨b, off + i, none⟩ := by
  unfold Addr.add; split <;> simp_all

section
variable {H : Type} {enc : TypeId × Value → H} {W : World}

theorem okWide_agg5 {P : Program} {w : World} {r : Reach} {base : Nat} {t : TypeId} {v : Value} {n : Nat} {e : TypeId} (ht : P.underlying t = some (.array n e)) (h : Value.okWide P w r base t v) : ∃ cs, v = .agg cs ∧ cs.size = P.cellsOf t := by
  simp only [Value.okWide, ht] at h
  obtain ⟨cs, h1, h2, _⟩ := h
  exact ⟨cs, h1, h2⟩

/-- A slice of whole numbers, opened. -/
theorem open_nums {t e : TypeId} {k : IntKind} {v : Value} {d : DataW H} {p : List MemPlace} {base : Nat} (ht : Try.prog.underlying t = some (.slice e)) (he : Try.prog.underlying e = some (.int k)) (hc : Try.prog.cellsOf e = 1)
    (hval : Value.okWide Try.prog W .any base t v) (h : DataW.Trod enc Try.prog W 0 (fun _ => true) true t v d p) :
    ∃ (a : Option Addr) (n c : Nat) (Z : Nat → Int), v = .slice a n c ∧ CS 0 W a n (fun i => .int k (Z i)) ∧ ∀ i, i < n → (Lit.int k (Z i)).wf = true := by
  obtain ⟨a0, len0, cap0, rfl⟩ := okWide_slice ht hval
  obtain ⟨fuel, hf⟩ := h
  rcases open_ints ht he hc hf with ⟨hcs, _⟩ | ⟨a, len, cap, zs, hcs, _, hl, hm, hz, _, hcc, hwf⟩
  · simp [Value.cells] at hcs
    obtain ⟨rfl, rfl, rfl⟩ := hcs
    exact ⟨none, 0, 0, fun _ => 0, rfl, ⟨by omega, .inl rfl⟩, fun i hi => by omega⟩
  · simp [Value.cells] at hcs
    obtain ⟨rfl, rfl, rfl⟩ := hcs
    simp only [if_true] at hz
    unfold maxLen at hm
    refine ⟨some a, len0, cap0, fun i => zs.getD i 0, rfl, ⟨by omega, ?_⟩, fun i hi => ?_⟩
    · by_cases h0 : len0 = 0
      · exact .inl h0
      · right
        obtain ⟨b, off, spot⟩ := a
        have hspot : spot = none := by simpa [Addr.add] using World.cell?_spot (hcc 0 (by omega))
        subst hspot
        refine ⟨b, off, rfl, Nat.zero_le _, fun i hi => ?_⟩
        have := hcc i (by omega)
        rw [add_none5] at this
        exact this
    · apply hwf
      show zs.getD i 0 ∈ zs
      rw [List.getD_eq_getElem?_getD, List.getElem?_eq_getElem (show i < zs.length by omega)]
      exact List.getElem_mem _

/-- The cells of a slab of a row. -/
theorem slab_get (cs : List Value) (a n i : Nat) (hi : i < n) : ((cs.drop a).take n)[i]? = cs[a + i]? := by
  rw [List.getElem?_take, if_pos hi, List.getElem?_drop]

/-- A row of 258 bytes. -/
theorem read23 {cs : List Value} {fuel : Nat} {x : DataW H × List MemPlace} (h : DataW.trod enc Try.prog W 0 (fun _ => true) true fuel 23 cs = some x) : ∀ i, i < 258 → ∃ z : Int, cs[i]? = some (.int .u8 z) ∧ (Lit.int .u8 z).wf = true := by
  intro i hi
  obtain ⟨xs, m, _, _, _, hxl, hx⟩ := DataW.trod_array Try.underlying23 h
  have h1 := hx i hi
  rw [show Try.prog.cellsOf 5 = 1 by kernel_rfl, List.getElem?_eq_getElem (by omega), Nat.mul_one] at h1
  obtain ⟨z, hz, _, hw⟩ := DataW.trod_int Try.underlying5 h1
  refine ⟨z, ?_, hw⟩
  have := slab_get cs i 1 0 (by omega)
  rw [hz] at this
  simpa using this.symm

theorem open_lens {v : Value} {d : DataW H} {p : List MemPlace} {base : Nat} (hval : Value.okWide Try.prog W .any base 24 v) (h : DataW.Trod enc Try.prog W 0 (fun _ => true) true 24 v d p) : ∃ A L, v = .agg A ∧ LenArr A L := by
  obtain ⟨cs, rfl, hsz⟩ := okWide_agg5 Try.underlying24 hval
  rw [show Try.prog.cellsOf 24 = 1548 by kernel_rfl] at hsz
  obtain ⟨fuel, hf⟩ := h
  obtain ⟨xs, m, _, _, _, hxl, hx⟩ := DataW.trod_array Try.underlying24 hf
  have hall : ∀ p, p < 1548 → ∃ z : Int, cs[p]? = some (.int .u8 z) ∧ (Lit.int .u8 z).wf = true := fun p hp => by
    have h1 := hx (p / 258) (by omega)
    rw [show Try.prog.cellsOf 23 = 258 by kernel_rfl, List.getElem?_eq_getElem (by omega)] at h1
    obtain ⟨z, hz, hw⟩ := read23 h1 (p % 258) (by omega)
    rw [slab_get _ _ _ _ (by omega), show p / 258 * 258 + p % 258 = p by omega] at hz
    exact ⟨z, by simpa [Value.cells] using hz, hw⟩
  refine ⟨cs, fun t s => (intOf (cs.getD (t * 258 + s) undef)).toNat, rfl, hsz, fun p hp => ?_⟩
  obtain ⟨z, hz, hw⟩ := hall p hp
  have := wf_u8 hw
  dsimp only
  rw [show p / 258 * 258 + p % 258 = p by omega, hz]
  simp [hz, intOf]
  omega

theorem read22 {cs : List Value} {fuel : Nat} {x : DataW H × List MemPlace} (h : DataW.trod enc Try.prog W 0 (fun _ => true) true fuel 22 cs = some x) : ∀ i, i < 258 → ∃ z : Int, cs[i]? = some (.int .i64 z) ∧ (Lit.int .i64 z).wf = true := by
  intro i hi
  obtain ⟨xs, m, _, _, _, hxl, hx⟩ := DataW.trod_array Try.underlying22 h
  have h1 := hx i hi
  rw [show Try.prog.cellsOf 3 = 1 by kernel_rfl, List.getElem?_eq_getElem (by omega), Nat.mul_one] at h1
  obtain ⟨z, hz, _, hw⟩ := DataW.trod_int Try.underlying3 h1
  refine ⟨z, ?_, hw⟩
  have := slab_get cs i 1 0 (by omega)
  rw [hz] at this
  simpa using this.symm
theorem read33 {cs : List Value} {fuel : Nat} {x : DataW H × List MemPlace} (h : DataW.trod enc Try.prog W 0 (fun _ => true) true fuel 33 cs = some x) : ∀ i, i < 1548 → ∃ z : Int, cs[i]? = some (.int .i64 z) ∧ (Lit.int .i64 z).wf = true := by
  intro i hi
  obtain ⟨xs, m, _, _, _, hxl, hx⟩ := DataW.trod_array Try.underlying33 h
  have h1 := hx (i / 258) (by omega)
  rw [show Try.prog.cellsOf 22 = 258 by kernel_rfl, List.getElem?_eq_getElem (by omega)] at h1
  obtain ⟨z, hz, hw⟩ := read22 h1 (i % 258) (by omega)
  rw [slab_get _ _ _ _ (by omega), show i / 258 * 258 + i % 258 = i by omega] at hz
  exact ⟨z, hz, hw⟩

theorem open_fit {v : Value} {d : DataW H} {p : List MemPlace} {base : Nat} (hval : Value.okWide Try.prog W .any base 34 v) (h : DataW.Trod enc Try.prog W 0 (fun _ => true) true 34 v d p) :
    ∃ (M : Array Value) (A : Nat → Int), v = .agg M ∧ M.size = 3096 ∧ (∀ p, p < 3096 → M[p]? = some (.int .i64 (A p))) ∧ ∀ p, p < 3096 → wrap64 (A p) = A p := by
  obtain ⟨cs, rfl, hsz⟩ := okWide_agg5 Try.underlying34 hval
  rw [show Try.prog.cellsOf 34 = 3096 by kernel_rfl] at hsz
  obtain ⟨fuel, hf⟩ := h
  obtain ⟨xs, m, _, _, _, hxl, hx⟩ := DataW.trod_array Try.underlying34 hf
  have hall : ∀ p, p < 3096 → ∃ z : Int, cs[p]? = some (.int .i64 z) ∧ (Lit.int .i64 z).wf = true := fun p hp => by
    have h1 := hx (p / 1548) (by omega)
    rw [show Try.prog.cellsOf 33 = 1548 by kernel_rfl, List.getElem?_eq_getElem (by omega)] at h1
    obtain ⟨z, hz, hw⟩ := read33 h1 (p % 1548) (by omega)
    rw [slab_get _ _ _ _ (by omega), show p / 1548 * 1548 + p % 1548 = p by omega] at hz
    exact ⟨z, by simpa [Value.cells] using hz, hw⟩
  refine ⟨cs, fun p => intOf (cs.getD p undef), rfl, hsz, fun p hp => ?_, fun p hp => ?_⟩
  · obtain ⟨z, hz, hw⟩ := hall p hp
    rw [hz]
    simp [hz, intOf]
  · obtain ⟨z, hz, hw⟩ := hall p hp
    have := wf_i64 hw
    have e : intOf (cs.getD p undef) = z := by simp [hz, intOf]
    dsimp only
    rw [e]
    exact IntWalk.wrap64_in z (by omega)
end
end Go.Proofs.Qxb6601576a
