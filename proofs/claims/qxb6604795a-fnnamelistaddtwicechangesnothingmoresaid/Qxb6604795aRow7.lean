import Derived.Test.Qxb6604795aRows
import Derived.Test.Qxb6604795aOpen
import Derived.Test.Qxb6604795aLaw7
namespace Go.Proofs.Qxb6604795a
open Go.ChangeShapes Go.WideShapes Go.ChangeAt Go.RowKit Go.Deep

set_option maxRecDepth 100000 in
theorem lifted7 (os : Os) (started : os.Started) (H : Type) (enc : TypeId × Value → H) :
    ReturnsInHanded {} Try.checked os 7 .any (Rows.fnNameListAddTwiceChangesNothingMoreSpec.pre6 enc Try.prog Try.f7 Rows.fnNameListAddTwiceChangesNothingMoreRow.domain false) (Rows.fnNameListAddTwiceChangesNothingMoreSpec.post enc Try.prog Try.f7 false true false false) := by
  refine returnsInHanded_of_change (C := Try.checked) own started (by kernel_rfl) Try.func7
    (ChangeSpec.witness6 (enc := enc) (C := Try.checked) false ⟨#[], #[.string ByteArray.empty, .slice none 0 0, .slice none 0 0, .slice none 0 0, .map none, .int .i64 0, .string ByteArray.empty, .string ByteArray.empty], []⟩ 8 (by kernel_rfl) (by kernel_rfl) (by kernel_rfl) (by kernel_rfl)) ?_
  intro W base args ds gs before hval0 hW hcnd _
  have hval : ∀ (j : Nat) t v, Try.f7.params[j]? = some t → args[j]? = some v → Value.okWide Try.prog W .any base t v := hval0
  have hW' := hW
  obtain ⟨p, q, hA0, hV, rfl, hfz, hnd⟩ := hW
  have hA : DataW.TrodAll enc Try.prog W 0 (fun _ => true) true Try.f7.params.toList args.toList ds p := hA0
  rw [Try.params7] at hA hval
  obtain ⟨v0, _, d0, _, p0, _, hv0, rfl, rfl, h0, hA⟩ := trodAll_cons hA
  obtain ⟨v1, _, d1, _, p1, _, hv1, rfl, rfl, h1, hA⟩ := trodAll_cons hA
  obtain ⟨v2, _, d2, _, p2, _, hv2, rfl, rfl, h2, hA⟩ := trodAll_cons hA
  obtain ⟨v3, _, d3, _, p3, _, hv3, rfl, rfl, h3, hA⟩ := trodAll_cons hA
  obtain ⟨v4, _, d4, _, p4, _, hv4, rfl, rfl, h4, hA⟩ := trodAll_cons hA
  obtain ⟨v5, _, d5, _, p5, _, hv5, rfl, rfl, h5, hA⟩ := trodAll_cons hA
  obtain ⟨v6, _, d6, _, p6, _, hv6, rfl, rfl, h6, hA⟩ := trodAll_cons hA
  obtain ⟨v7, _, d7, _, p7, _, hv7, rfl, rfl, h7, hA⟩ := trodAll_cons hA
  obtain ⟨hv8, rfl, rfl⟩ := trodAll_nil hA
  subst hv8 hv7 hv6 hv5 hv4 hv3 hv2 hv1
  obtain rfl : args = #[v0, v1, v2, v3, v4, v5, v6, v7] := by cases args; simp_all
  obtain ⟨rfl, rfl⟩ := trodVars_none hV
  have lt1 : ∀ x ∈ p1, x.block < W.heap.size := by obtain ⟨m, hm⟩ := h1; exact DataW.trod_lt m _ _ _ hm
  have lt2 : ∀ x ∈ p2, x.block < W.heap.size := by obtain ⟨m, hm⟩ := h2; exact DataW.trod_lt m _ _ _ hm
  have lt3 : ∀ x ∈ p3, x.block < W.heap.size := by obtain ⟨m, hm⟩ := h3; exact DataW.trod_lt m _ _ _ hm
  have lt4 : ∀ x ∈ p4, x.block < W.heap.size := by obtain ⟨m, hm⟩ := h4; exact DataW.trod_lt m _ _ _ hm
  have ok0 := hval 0 9 v0 rfl rfl
  have ok6 := hval 6 9 v6 rfl rfl
  have ok7 := hval 7 9 v7 rfl rfl
  have lt0 : ∀ x ∈ p0, x.block < W.heap.size := by obtain ⟨m, hm⟩ := h0; exact DataW.trod_lt m _ _ _ hm
  have lt5 : ∀ x ∈ p5, x.block < W.heap.size := by obtain ⟨m, hm⟩ := h5; exact DataW.trod_lt m _ _ _ hm
  have lt6 : ∀ x ∈ p6, x.block < W.heap.size := by obtain ⟨m, hm⟩ := h6; exact DataW.trod_lt m _ _ _ hm
  have lt7 : ∀ x ∈ p7, x.block < W.heap.size := by obtain ⟨m, hm⟩ := h7; exact DataW.trod_lt m _ _ _ hm
  obtain ⟨kind, e0, _, _, k1⟩ := ChangeMaps.open_string Try.underlying9 ok0 h0
  obtain ⟨a1, n1, c1, S, e1, s1, z1⟩ := open_strs_arg (hval 1 35 v1 rfl rfl) h1
  obtain ⟨a2, n2, c2, R, e2, s2, z2⟩ := open_rows_arg (hval 2 36 v2 rfl rfl) h2
  obtain ⟨a3, n3, c3, T, e3, s3⟩ := open_ints_arg (hval 3 25 v3 rfl rfl) h3
  obtain ⟨sz, f, hm, hz⟩ := open_map_arg (hval 4 37 v4 rfl rfl) h4
  obtain ⟨left, e5⟩ := okWide_int Try.underlying3 (hval 5 3 v5 rfl rfl)
  obtain ⟨name, e6, _, _, k6⟩ := ChangeMaps.open_string Try.underlying9 ok6 h6
  obtain ⟨about, e7, _, _, k7⟩ := ChangeMaps.open_string Try.underlying9 ok7 h7
  subst e0 e1 e2 e3 e5 e6 e7
  unfold maxLen at k1 k6 k7
  clear hA0 hval0
  refine (law7 W a1 a2 a3 c1 c2 c3 n1 n2 n3 sz kind name about v4 left S R T f s1 s2 s3 hm hz (by omega) (by omega) (by omega) z1 z2).mono fun e W' ⟨he, bel⟩ => ?_
  subst he
  have T0 := Below.trod laidOut (by kernel_rfl) (of_decide_eq_true (by kernel_rfl)) h0 bel lt0
  have T1 := Below.trod laidOut (by kernel_rfl) (of_decide_eq_true (by kernel_rfl)) h1 bel lt1
  have T2 := Below.trod laidOut (by kernel_rfl) (of_decide_eq_true (by kernel_rfl)) h2 bel lt2
  have T3 := Below.trod laidOut (by kernel_rfl) (of_decide_eq_true (by kernel_rfl)) h3 bel lt3
  have T4 := Below.trod laidOut (by kernel_rfl) (of_decide_eq_true (by kernel_rfl)) h4 bel lt4
  have T5 := Below.trod laidOut (by kernel_rfl) (of_decide_eq_true (by kernel_rfl)) h5 bel lt5
  have T6 := Below.trod laidOut (by kernel_rfl) (of_decide_eq_true (by kernel_rfl)) h6 bel lt6
  have T7 := Below.trod laidOut (by kernel_rfl) (of_decide_eq_true (by kernel_rfl)) h7 bel lt7
  exact ⟨_, rfl, _, _, _, [], _, [], hW', trodAll_mk1 (shut_bool Try.underlying4 _),
    trodAll_cons_mk T0 (trodAll_cons_mk T1 (trodAll_cons_mk T2 (trodAll_cons_mk T3 (trodAll_cons_mk T4 (trodAll_cons_mk T5 (trodAll_cons_mk T6 (trodAll_mk1 T7))))))), rfl, bel.frame _, fun h => by cases h⟩

theorem addTwice : Rows.FnNameListAddTwiceChangesNothingMoreSaid :=
  OpenClaim.holds_of_wide 7 Try.f7 rfl rfl rfl rfl rfl rfl rfl ⟨rfl, rfl, rfl, rfl, rfl⟩ rfl rfl rfl rfl rfl (by kernel_rfl) Try.func7 (by kernel_rfl)
    (of_decide_eq_true (by kernel_rfl)) (by unfold Func.isWrapper; first | (rw [if_pos (by decide +kernel)]; kernel_rfl) | (rw [if_neg (by decide +kernel)]; exact ⟨rfl, rfl⟩))
    (fun os started H enc _ => lifted7 os started H enc)
end Go.Proofs.Qxb6604795a
