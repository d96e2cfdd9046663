import Derived.Test.Qxb6601576aRows
import Derived.Test.Qxb6601576aOpen5
import Derived.Test.Qxb6601576aLaw5
import Derived.Test.Qxb6601576aWit5
import Derived.Test.Qxb6601576aFc5
namespace Go.Proofs.Qxb6601576a
open Go.ChangeShapes Go.WideShapes Go.ChangeAt Go.RowKit

theorem own5 : ownKnob Try.prog.godebug = none := by kernel_rfl
theorem laidOut5 : laidOutB Try.prog = true := by kernel_rfl

set_option maxRecDepth 100000 in
theorem lifted5 (os : Os) (started : os.Started) (H : Type) (enc : TypeId × Value → H) :
    ReturnsInHanded {} Try.checked os 5 .any (Rows.fnChooseMatchesDirectCostsSpec.pre6 enc Try.prog Try.f5 Rows.fnChooseMatchesDirectCostsRow.domain false) (Rows.fnChooseMatchesDirectCostsSpec.post enc Try.prog Try.f5 false true false false) := by
  refine returnsInHanded_of_change (C := Try.checked) own5 started (by kernel_rfl) Try.func5
    (wit_all os H enc) ?_
  intro W base args ds gs before hval0 hW hcnd _
  have hval : ∀ (j : Nat) t v, Try.f5.params[j]? = some t → args[j]? = some v → Value.okWide Try.prog W .any base t v := hval0
  have hW' := hW
  obtain ⟨p, q, hA0, hV, rfl, hfz, hnd⟩ := hW
  have hA : DataW.TrodAll enc Try.prog W 0 (fun _ => true) true Try.f5.params.toList args.toList ds p := hA0
  rw [Try.params5] at hA hval
  obtain ⟨v0, _, d0, _, p0, _, hv0, rfl, rfl, h0, hA⟩ := trodAll_cons hA
  obtain ⟨v1, _, d1, _, p1, _, hv1, rfl, rfl, h1, hA⟩ := trodAll_cons hA
  obtain ⟨v2, _, d2, _, p2, _, hv2, rfl, rfl, h2, hA⟩ := trodAll_cons hA
  obtain ⟨v3, _, d3, _, p3, _, hv3, rfl, rfl, h3, hA⟩ := trodAll_cons hA
  obtain ⟨v4, _, d4, _, p4, _, hv4, rfl, rfl, h4, hA⟩ := trodAll_cons hA
  obtain ⟨v5, _, d5, _, p5, _, hv5, rfl, rfl, h5, hA⟩ := trodAll_cons hA
  obtain ⟨v6, _, d6, _, p6, _, hv6, rfl, rfl, h6, hA⟩ := trodAll_cons hA
  obtain ⟨v7, _, d7, _, p7, _, hv7, rfl, rfl, h7, hA⟩ := trodAll_cons hA
  obtain ⟨v8, _, d8, _, p8, _, hv8, rfl, rfl, h8, hA⟩ := trodAll_cons hA
  obtain ⟨v9, _, d9, _, p9, _, hv9, rfl, rfl, h9, hA⟩ := trodAll_cons hA
  obtain ⟨hv10, rfl, rfl⟩ := trodAll_nil hA
  subst hv10 hv9 hv8 hv7 hv6 hv5 hv4 hv3 hv2 hv1
  obtain rfl : args = #[v0, v1, v2, v3, v4, v5, v6, v7, v8, v9] := by cases args; simp_all
  obtain ⟨rfl, rfl⟩ := trodVars_none hV
  have lt0 : ∀ x ∈ p0, x.block < W.heap.size := by obtain ⟨m, hm⟩ := h0; exact DataW.trod_lt m _ _ _ hm
  have lt1 : ∀ x ∈ p1, x.block < W.heap.size := by obtain ⟨m, hm⟩ := h1; exact DataW.trod_lt m _ _ _ hm
  have lt2 : ∀ x ∈ p2, x.block < W.heap.size := by obtain ⟨m, hm⟩ := h2; exact DataW.trod_lt m _ _ _ hm
  have lt3 : ∀ x ∈ p3, x.block < W.heap.size := by obtain ⟨m, hm⟩ := h3; exact DataW.trod_lt m _ _ _ hm
  have lt4 : ∀ x ∈ p4, x.block < W.heap.size := by obtain ⟨m, hm⟩ := h4; exact DataW.trod_lt m _ _ _ hm
  have lt5 : ∀ x ∈ p5, x.block < W.heap.size := by obtain ⟨m, hm⟩ := h5; exact DataW.trod_lt m _ _ _ hm
  have lt6 : ∀ x ∈ p6, x.block < W.heap.size := by obtain ⟨m, hm⟩ := h6; exact DataW.trod_lt m _ _ _ hm
  have lt7 : ∀ x ∈ p7, x.block < W.heap.size := by obtain ⟨m, hm⟩ := h7; exact DataW.trod_lt m _ _ _ hm
  have lt8 : ∀ x ∈ p8, x.block < W.heap.size := by obtain ⟨m, hm⟩ := h8; exact DataW.trod_lt m _ _ _ hm
  have lt9 : ∀ x ∈ p9, x.block < W.heap.size := by obtain ⟨m, hm⟩ := h9; exact DataW.trod_lt m _ _ _ hm
  obtain ⟨m0, e0⟩ := okWide_int Try.underlying3 (hval 0 3 v0 rfl rfl)
  obtain ⟨A0, L0, e1, k1⟩ := open_lens (hval 1 24 v1 rfl rfl) h1
  obtain ⟨a2, n2, c2, Z2, e2, s2, w2⟩ := open_nums Try.underlying30 Try.underlying5 (by kernel_rfl) (hval 2 30 v2 rfl rfl) h2
  obtain ⟨m3, e3⟩ := okWide_int Try.underlying3 (hval 3 3 v3 rfl rfl)
  obtain ⟨A1, L1, e4, k4⟩ := open_lens (hval 4 24 v4 rfl rfl) h4
  obtain ⟨a5, n5, c5, Z5, e5, s5, w5⟩ := open_nums Try.underlying30 Try.underlying5 (by kernel_rfl) (hval 5 30 v5 rfl rfl) h5
  obtain ⟨a6, n6, c6, Z6, e6, s6, w6⟩ := open_nums Try.underlying31 Try.underlying56 (by kernel_rfl) (hval 6 31 v6 rfl rfl) h6
  obtain ⟨a7, n7, c7, Z7, e7, s7, w7⟩ := open_nums Try.underlying32 Try.underlying21 (by kernel_rfl) (hval 7 32 v7 rfl rfl) h7
  obtain ⟨uf, e8, _, _⟩ := open_bool Try.underlying4 (hval 8 4 v8 rfl rfl) h8
  obtain ⟨M, A, e9, k9, k9', k9''⟩ := open_fit (hval 9 34 v9 rfl rfl) h9
  subst e0 e1 e2 e3 e4 e5 e6 e7 e8 e9
  clear hA0 hval0
  have t2 : BS 0 W a2 n2 (fun i => (Z2 i).toNat) := s2.congr (fun i hi => by have := wf_u8 (w2 i hi); show Value.int .u8 (Z2 i) = .int .u8 (((Z2 i).toNat : Nat) : Int); rw [Int.toNat_of_nonneg this.1])
  have t5 : BS 0 W a5 n5 (fun i => (Z5 i).toNat) := s5.congr (fun i hi => by have := wf_u8 (w5 i hi); show Value.int .u8 (Z5 i) = .int .u8 (((Z5 i).toNat : Nat) : Int); rw [Int.toNat_of_nonneg this.1])
  have t6 : ES 0 W a6 n6 (fun i => (Z6 i).toNat) := s6.congr (fun i hi => by have := wf_u16 (w6 i hi); show Value.int .u16 (Z6 i) = .int .u16 (((Z6 i).toNat : Nat) : Int); rw [Int.toNat_of_nonneg this.1])
  refine (law5 W A0 A1 M L0 L1 A m0 m3 uf a2 a5 a6 a7 n2 c2 n5 c5 n6 c6 n7 c7 (fun i => (Z2 i).toNat) (fun i => (Z5 i).toNat) (fun i => (Z6 i).toNat) Z7 k1 k4 ⟨k9, k9'⟩ k9'' t2 t5 t6 s7
    (fun i hi => by have := wf_u16 (w6 i hi); omega) (fun i hi => wf_i32 (w7 i hi))).mono fun e W' ⟨he, bel⟩ => ?_
  subst he
  have T0 := Below.trod laidOut5 (by kernel_rfl) (of_decide_eq_true (by kernel_rfl)) h0 bel lt0
  have T1 := Below.trod laidOut5 (by kernel_rfl) (of_decide_eq_true (by kernel_rfl)) h1 bel lt1
  have T2 := Below.trod laidOut5 (by kernel_rfl) (of_decide_eq_true (by kernel_rfl)) h2 bel lt2
  have T3 := Below.trod laidOut5 (by kernel_rfl) (of_decide_eq_true (by kernel_rfl)) h3 bel lt3
  have T4 := Below.trod laidOut5 (by kernel_rfl) (of_decide_eq_true (by kernel_rfl)) h4 bel lt4
  have T5 := Below.trod laidOut5 (by kernel_rfl) (of_decide_eq_true (by kernel_rfl)) h5 bel lt5
  have T6 := Below.trod laidOut5 (by kernel_rfl) (of_decide_eq_true (by kernel_rfl)) h6 bel lt6
  have T7 := Below.trod laidOut5 (by kernel_rfl) (of_decide_eq_true (by kernel_rfl)) h7 bel lt7
  have T8 := Below.trod laidOut5 (by kernel_rfl) (of_decide_eq_true (by kernel_rfl)) h8 bel lt8
  have T9 := Below.trod laidOut5 (by kernel_rfl) (of_decide_eq_true (by kernel_rfl)) h9 bel lt9
  exact ⟨_, rfl, _, _, _, [], _, [], hW', trodAll_mk1 (shut_bool Try.underlying4 _),
    trodAll_cons_mk T0 (trodAll_cons_mk T1 (trodAll_cons_mk T2 (trodAll_cons_mk T3 (trodAll_cons_mk T4 (trodAll_cons_mk T5 (trodAll_cons_mk T6 (trodAll_cons_mk T7 (trodAll_cons_mk T8 (trodAll_mk1 T9))))))))), rfl, bel.frame _, fun h => by cases h⟩

theorem directCosts : Rows.FnChooseMatchesDirectCostsSaid :=
  OpenClaim.holds_of_wide 5 Try.f5 rfl rfl rfl rfl rfl rfl rfl ⟨rfl, rfl, rfl, rfl, rfl⟩ rfl rfl rfl rfl rfl (by kernel_rfl) Try.func5 closed5
    (of_decide_eq_true (by kernel_rfl)) (by unfold Func.isWrapper; first | (rw [if_pos (by decide +kernel)]; kernel_rfl) | (rw [if_neg (by decide +kernel)]; exact ⟨rfl, rfl⟩))
    (fun os started H enc _ => lifted5 os started H enc)
end Go.Proofs.Qxb6601576a
