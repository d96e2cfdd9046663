import Derived.Test.Qxb6601576aMove5
import Derived.ChangeKeysEq
namespace Go.Proofs.Qxb6601576a
open Go.RowKit

/-- From off on, n whole numbers. -/
def Ints (M : Array Value) (off n : Nat) : Prop := ∀ i, i < n → ∃ x : Int, M[off + i]? = some (.int .i64 x)

theorem eqItems_same {P : Program} (w : World) (d : Nat) (e : TypeId) (c : Nat) (xs : Array Value) : ∀ (is : List Nat), (∀ i ∈ is, ∃ v, (part e xs (i * c)).run P w = .ok v w ∧ (Op.equalIn d e v v).run P w = .ok true w) → (Op.eqItems d e c xs xs is).run P w = .ok true w
  | [], _ => by simp [Op.eqItems]
  | i :: is, h => by
    obtain ⟨v, h1, h2⟩ := h i (by simp)
    have ih := eqItems_same w d e c xs is (fun j hj => h j (by simp [hj]))
    simp only [Op.eqItems, Sem.run_bind, h1, h2, Result.andThen_ok]
    simpa using ih

theorem Try.some3 : (Try.prog.info? 3).isSome = true := by kernel_rfl
theorem Try.some22 : (Try.prog.info? 22).isSome = true := by kernel_rfl
theorem Try.some33 : (Try.prog.info? 33).isSome = true := by kernel_rfl
theorem Try.cells3' : Try.prog.cellsOf 3 = 1 := by kernel_rfl
theorem Try.cells22' : Try.prog.cellsOf 22 = 258 := by kernel_rfl
theorem Try.cells33' : Try.prog.cellsOf 33 = 1548 := by kernel_rfl

theorem part3 (w : World) (xs : Array Value) (off : Nat) (v : Value) (h : xs[off]? = some v) : (part 3 xs off).run Try.prog w = .ok v w := by
  simp [part, isAgg, run_underlying Try.underlying3, h]

theorem partArr (w : World) (t e : TypeId) (n : Nat) (hu : Try.prog.underlying t = some (.array n e)) (hi : (Try.prog.info? t).isSome = true) (xs : Array Value) (off : Nat) : (part t xs off).run Try.prog w = .ok (.agg (xs.extract off (off + Try.prog.cellsOf t))) w := by
  obtain ⟨i, hi⟩ := Option.isSome_iff_exists.1 hi
  have := run_sizeOf w hi
  simp [part, isAgg, run_underlying hu, this]

theorem Ints.extract {M : Array Value} {off n a b : Nat} (h : Ints M off n) (hab : a + b ≤ n) : Ints (M.extract (off + a) (off + a + b)) 0 b := fun i hi => by
  obtain ⟨x, hx⟩ := h (a + i) (by omega)
  have hlt : off + (a + i) < M.size := by
    rcases Nat.lt_or_ge (off + (a + i)) M.size with h' | h'
    · exact h'
    · rw [Array.getElem?_eq_none h'] at hx; cases hx
  refine ⟨x, ?_⟩
  rw [Array.getElem?_extract, if_pos (by omega), Nat.zero_add, ← hx]
  congr 1; omega

theorem eqArr {t e : TypeId} {n : Nat} (w : World) (d : Nat) (hu : Try.prog.underlying t = some (.array n e)) (hi : (Try.prog.info? e).isSome = true) (xs : Array Value)
    (h : ∀ i, i < n → ∃ v, (part e xs (i * Try.prog.cellsOf e)).run Try.prog w = .ok v w ∧ (Op.equalIn d e v v).run Try.prog w = .ok true w) : (Op.equalIn (d + 1) t (.agg xs) (.agg xs)).run Try.prog w = .ok true w := by
  obtain ⟨i, hi⟩ := Option.isSome_iff_exists.1 hi
  rw [run_equalIn_array w d xs xs hu hi]
  exact eqItems_same w d e _ xs _ (fun j hj => h j (List.mem_range.1 hj))

theorem eq22 (w : World) (d : Nat) (M : Array Value) (h : Ints M 0 258) : (Op.equalIn (d + 2) 22 (.agg M) (.agg M)).run Try.prog w = .ok true w := by
  refine eqArr w (d + 1) Try.underlying22 Try.some3 M (fun i hi => ?_)
  obtain ⟨x, hx⟩ := h i hi
  rw [Nat.zero_add] at hx
  refine ⟨.int .i64 x, part3 w M _ _ (by rw [Try.cells3', Nat.mul_one]; exact hx), ?_⟩
  have := run_equalIn_int (P := Try.prog) w d 3 .i64 .i64 x x Try.underlying3
  rw [this]; simp
theorem eq33 (w : World) (d : Nat) (M : Array Value) (h : Ints M 0 1548) : (Op.equalIn (d + 3) 33 (.agg M) (.agg M)).run Try.prog w = .ok true w := by
  refine eqArr w (d + 2) Try.underlying33 Try.some22 M (fun i hi => ?_)
  refine ⟨_, partArr w 22 3 258 Try.underlying22 Try.some22 M _, ?_⟩
  rw [Try.cells22']
  have := h.extract (a := i * 258) (b := 258) (by omega)
  rw [Nat.zero_add] at this
  exact eq22 w d _ this
theorem eq34 (w : World) (d : Nat) (M : Array Value) (h : Ints M 0 3096) : (Op.equalIn (d + 4) 34 (.agg M) (.agg M)).run Try.prog w = .ok true w := by
  refine eqArr w (d + 3) Try.underlying34 Try.some33 M (fun i hi => ?_)
  refine ⟨_, partArr w 33 22 6 Try.underlying33 Try.some33 M _, ?_⟩
  rw [Try.cells33']
  have := h.extract (a := i * 1548) (b := 1548) (by omega)
  rw [Nat.zero_add] at this
  exact eq33 w d _ this
theorem eq43 (w : World) (d : Nat) (x y : Int) : (Op.equalIn (d + 2) 43 (.agg #[.int .i64 x, .int .i64 y]) (.agg #[.int .i64 x, .int .i64 y])).run Try.prog w = .ok true w := by
  refine eqArr w (d + 1) Try.underlying43 Try.some3 _ (fun i hi => ?_)
  have e : ∀ z, (Op.equalIn (d + 1) 3 (.int .i64 z) (.int .i64 z)).run Try.prog w = .ok true w := fun z => by
    have := run_equalIn_int (P := Try.prog) w d 3 .i64 .i64 z z Try.underlying3
    rw [this]; simp
  obtain rfl | rfl : i = 0 ∨ i = 1 := by omega
  · exact ⟨_, part3 w _ _ _ (by rw [Try.cells3']; rfl), e x⟩
  · exact ⟨_, part3 w _ _ _ (by rw [Try.cells3']; rfl), e y⟩
theorem Try.guard34 : Try.prog.eqGuardType Try.prog.depth 34 = false := by kernel_rfl
theorem Try.guard43 : Try.prog.eqGuardType Try.prog.depth 43 = false := by kernel_rfl
theorem Try.zinfo34 : (Try.prog.info? 34).map (fun i => (i.zero, i.size)) = some (some (.agg (Array.replicate 3096 (.int .i64 0))), 3096) := by kernel_rfl
theorem zero34 (w : World) : (zeroValue 34).run Try.prog w = .ok (.agg (Array.replicate 3096 (.int .i64 0))) w := (zero_of_info Try.zinfo34).1 w
end Go.Proofs.Qxb6601576a
