import Derived.Test.Qxb6601576aRows
import Derived.Test.Qxb6601576aLaw4
import Derived.ProofKit
import Derived.OpenShut
import Derived.ChangeOld
import Derived.Below
namespace Go.Proofs.Qxb6601576a
open Go.ChangeShapes Go.WideShapes Go.ChangeAt Go.RowKit

theorem own : ownKnob Try.prog.godebug = none := by kernel_rfl
theorem laidOut : laidOutB Try.prog = true := by kernel_rfl
theorem Try.cells22 : Try.prog.cellsOf 22 = 258 := by kernel_rfl
theorem Try.cells3 : Try.prog.cellsOf 3 = 1 := by kernel_rfl

theorem okWide_array {P : Program} {w : World} {r : Reach} {base : Nat} {t : TypeId} {v : Value} {n : Nat} {e : TypeId} (ht : P.underlying t = some (.array n e)) (h : Value.okWide P w r base t v) : ∃ cs, v = .agg cs ∧ cs.size = P.cellsOf t := by
  simp only [Value.okWide, ht] at h
  obtain ⟨cs, h1, h2, _⟩ := h
  exact ⟨cs, h1, h2⟩

/-- An argument of type [258]int, opened. -/
theorem open_counts {H : Type} {enc : TypeId × Value → H} {W : World} {v : Value} {d : DataW H} {p : List MemPlace} {base : Nat}
    (hval : Value.okWide Try.prog W .any base 22 v) (h : DataW.Trod enc Try.prog W 0 (fun _ => true) true 22 v d p) : ∃ C, v = .agg (cells C) := by
  obtain ⟨cs, rfl, hsz⟩ := okWide_array Try.underlying22 hval
  rw [Try.cells22] at hsz
  obtain ⟨fuel, hf⟩ := h
  obtain ⟨xs, m, _, _, _, hxl, hx⟩ := DataW.trod_array Try.underlying22 hf
  have hint : ∀ i, i < 258 → ∃ n, cs[i]? = some (Value.int .i64 n) := by
    intro i hi
    have h1 := hx i hi
    rw [Try.cells3, List.getElem?_eq_getElem (by omega)] at h1
    obtain ⟨n, hn, _, _⟩ := DataW.trod_int Try.underlying3 h1
    refine ⟨n, ?_⟩
    simp only [Value.cells, Nat.mul_one] at hn
    have h2 : (cs.toList.drop i).head? = some (Value.int .i64 n) := by
      have := congrArg List.head? hn
      rwa [List.head?_take, if_neg (by omega)] at this
    rw [List.head?_drop] at h2
    simpa using h2
  refine ⟨fun i => intOf (cs.getD i undef), ?_⟩
  congr 1
  apply Array.ext_getElem?
  intro i
  by_cases hi : i < 258
  · obtain ⟨n, hn⟩ := hint i hi
    simp [cells, hi, hn, intOf]
  · rw [Array.getElem?_eq_none (by omega), Array.getElem?_eq_none (by simp [cells]; omega)]

set_option maxRecDepth 100000 in
theorem lifted4 (os : Os) (started : os.Started) (H : Type) (enc : TypeId × Value → H) :
    ReturnsInHanded {} Try.checked os 4 .any (Rows.fnStartLengthsFreesEachUsedSymbolOnceSpec.pre6 enc Try.prog Try.f4 Rows.fnStartLengthsFreesEachUsedSymbolOnceRow.domain false) (Rows.fnStartLengthsFreesEachUsedSymbolOnceSpec.post enc Try.prog Try.f4 false true false false) := by
  refine returnsInHanded_of_change (C := Try.checked) own started (by kernel_rfl) Try.func4
    (ChangeSpec.witness6 (enc := enc) (C := Try.checked) false ⟨#[], #[.agg (Array.replicate 258 (.int .i64 0)), .int .i64 0, .int .i64 0, .bool false], []⟩ 8 (by kernel_rfl) (by kernel_rfl) (by kernel_rfl) (by kernel_rfl)) ?_
  intro W base args ds gs before hval0 hW hcnd _
  have hval : ∀ (j : Nat) t v, Try.f4.params[j]? = some t → args[j]? = some v → Value.okWide Try.prog W .any base t v := hval0
  have hW' := hW
  obtain ⟨p, q, hA0, hV, rfl, hfz, hnd⟩ := hW
  have hA : DataW.TrodAll enc Try.prog W 0 (fun _ => true) true Try.f4.params.toList args.toList ds p := hA0
  rw [Try.params4] at hA hval
  obtain ⟨v0, v1, v2, v3, d0, d1, d2, d3, p0, p1, p2, p3, rfl, rfl, rfl, h0, h1, h2, h3⟩ := trodAll_four hA
  obtain ⟨rfl, rfl⟩ := trodVars_none hV
  have lt0 : ∀ x ∈ p0, x.block < W.heap.size := by obtain ⟨m, hm⟩ := h0; exact DataW.trod_lt m _ _ _ hm
  obtain ⟨C, rfl⟩ := open_counts (hval 0 22 v0 rfl rfl) h0
  obtain ⟨alp, rfl, rfl, rfl, w1⟩ := open_int Try.underlying3 (hval 1 3 v1 rfl rfl) h1
  obtain ⟨n, rfl, rfl, rfl, w2⟩ := open_int Try.underlying3 (hval 2 3 v2 rfl rfl) h2
  obtain ⟨sb, rfl, rfl, rfl⟩ := open_bool Try.underlying4 (hval 3 4 v3 rfl rfl) h3
  clear hA0 hval0
  refine (law4_walk C alp n sb W).mono fun e W' ⟨he, bel⟩ => ?_
  subst he
  exact ⟨_, rfl, _, _, _, [], _, [], hW', trodAll_mk1 (shut_bool Try.underlying4 _), trodAll_mk4 (Below.trod laidOut (by kernel_rfl) (of_decide_eq_true (by kernel_rfl)) h0 bel lt0) (shut_int Try.underlying3 w1) (shut_int Try.underlying3 w2) (shut_bool Try.underlying4 _), rfl, bel.frame _, fun h => by cases h⟩

theorem freesOnce : Rows.FnStartLengthsFreesEachUsedSymbolOnceSaid :=
  OpenClaim.holds_of_wide 4 Try.f4 rfl rfl rfl rfl rfl rfl rfl ⟨rfl, rfl, rfl, rfl, rfl⟩ rfl rfl rfl rfl rfl (by kernel_rfl) Try.func4 (by kernel_rfl)
    (of_decide_eq_true (by kernel_rfl)) (by unfold Func.isWrapper; first | (rw [if_pos (by decide +kernel)]; kernel_rfl) | (rw [if_neg (by decide +kernel)]; exact ⟨rfl, rfl⟩))
    (fun os started H enc _ => lifted4 os started H enc)
end Go.Proofs.Qxb6601576a
