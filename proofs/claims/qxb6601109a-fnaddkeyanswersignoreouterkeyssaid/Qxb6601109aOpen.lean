import Derived.Test.Qxb6601109aRows
import Derived.Test.Qxb6601109aPre
import Derived.ProofKit
import Derived.OpenShut
import Derived.ChangeOld
import Derived.Below
import Derived.Deep.Matrix
namespace Go.Proofs.Qxb6601109a
open Go.ChangeShapes Go.WideShapes Go.ChangeAt Go.RowKit Go.Deep

theorem own : ownKnob Try.prog.godebug = none := by kernel_rfl
theorem laidOut : laidOutB Try.prog = true := by kernel_rfl

theorem byte_of_wf {n : Int} (h : (Lit.int .u8 n).wf = true) : ((UInt8.ofNat n.toNat).toNat : Int) = n := by
  simp [Lit.wf, IntKind.min, IntKind.max, IntKind.signed, IntKind.bits] at h
  simp
  omega

/-- An argument of type [][]byte, opened. -/
theorem open_list {H : Type} {enc : TypeId × Value → H} {W : World} {v : Value} {d : DataW H} {p : List MemPlace} {base : Nat}
    (hval : Value.okWide Try.prog W .any base 22 v) (h : DataW.Trod enc Try.prog W 0 (fun _ => true) true 22 v d p) : ∃ a c ks, v = .slice a (List.length ks) c ∧ LS W a ks := by
  obtain ⟨a0, len0, cap0, rfl⟩ := okWide_slice Try.underlying22 hval
  obtain ⟨fuel, hf⟩ := h
  rcases open_int_rows Try.underlying22 Try.underlying29 Try.underlying5 (by kernel_rfl) (by kernel_rfl) hf with ⟨hcs, _⟩ | ⟨a, len, cap, A, L, C, Z, hcs, _, hl, hm, _, hr⟩
  · simp [Value.cells] at hcs
    obtain ⟨rfl, rfl, rfl⟩ := hcs
    exact ⟨none, 0, [], rfl, by simp, .inl rfl⟩
  · simp [Value.cells] at hcs
    obtain ⟨rfl, rfl, rfl⟩ := hcs
    refine ⟨some a, cap0, (List.range len0).map fun r => ((Z r).take (L r)).map fun n => UInt8.ofNat n.toNat, by simp, ?_⟩
    refine ⟨by simp; unfold maxLen at hm; omega, ?_⟩
    by_cases h0 : len0 = 0
    · subst h0; exact .inl rfl
    · obtain ⟨b, off, spot⟩ := a
      have hspot : spot = none := by simpa [Addr.add] using World.cell?_spot (hr 0 (by omega)).1
      subst hspot
      refine .inr ⟨b, off, rfl, fun i hi => ?_⟩
      simp at hi
      obtain ⟨hc, hLC, hCm, hZ, hwf, hnone, hsome⟩ := hr i (by omega)
      rw [add_plain] at hc
      have hlen : ((Z i).take (L i)).length = L i := by simp; omega
      have hgd : ((List.range len0).map fun r => ((Z r).take (L r)).map fun n => UInt8.ofNat n.toNat).getD i [] = ((Z i).take (L i)).map fun n => UInt8.ofNat n.toNat := by
        simp [List.getD, hi]
      rw [hgd]
      have hlen' : (((Z i).take (L i)).map fun n => UInt8.ofNat n.toNat).length = L i := by rw [List.length_map, hlen]
      refine ⟨_, hc, A i, C i, by rw [hlen'], by rw [hlen']; unfold maxLen at hCm; omega, ?_⟩
      by_cases hL : L i = 0
      · left; simp [hL]
      · right
        cases hA : A i with
        | none => have := hnone hA; omega
        | some a' =>
          obtain ⟨_, hcell⟩ := hsome a' hA
          obtain ⟨b', off', spot'⟩ := a'
          have hspot' : spot' = none := by simpa [Addr.add] using World.cell?_spot (hcell 0 (by omega))
          subst hspot'
          refine ⟨b', off', rfl, fun j hj => ?_⟩
          rw [hlen'] at hj
          have := hcell j (by omega)
          rw [add_plain] at this
          rw [this]
          have hjZ : j < (Z i).length := by omega
          have hw := hwf _ (List.getElem_mem hjZ)
          have e1 : (((Z i).take (L i)).map fun n => UInt8.ofNat n.toNat).getD j 0 = UInt8.ofNat ((Z i)[j]).toNat := by
            rw [List.getD, List.getElem?_map, List.getElem?_take_of_lt hj, List.getElem?_eq_getElem hjZ]; rfl
          have e2 : (Z i).getD j 0 = (Z i)[j] := by rw [List.getD, List.getElem?_eq_getElem hjZ]; rfl
          rw [e1, e2, bv, byte_of_wf hw]

set_option maxRecDepth 100000 in
theorem lifted1 (os : Os) (started : os.Started) (H : Type) (enc : TypeId × Value → H) :
    ReturnsInHanded {} Try.checked os 3 .any (Rows.fnAddKeyReportsRepeatsAndKeepsListSpec.pre6 enc Try.prog Try.f3 Rows.fnAddKeyReportsRepeatsAndKeepsListRow.domain false) (Rows.fnAddKeyReportsRepeatsAndKeepsListSpec.post enc Try.prog Try.f3 false true false false) := by
  refine returnsInHanded_of_change (C := Try.checked) own started (by kernel_rfl) Try.func3
    (ChangeSpec.witness6 (enc := enc) (C := Try.checked) false ⟨#[], #[.slice none 0 0, .slice none 0 0], []⟩ 8 (by kernel_rfl) (by kernel_rfl) (by kernel_rfl) (by kernel_rfl)) ?_
  intro W base args ds gs before hval0 hW hcnd _
  have hval : ∀ (j : Nat) t v, Try.f3.params[j]? = some t → args[j]? = some v → Value.okWide Try.prog W .any base t v := hval0
  have hW' := hW
  obtain ⟨p, q, hA0, hV, rfl, hfz, hnd⟩ := hW
  have hA : DataW.TrodAll enc Try.prog W 0 (fun _ => true) true Try.f3.params.toList args.toList ds p := hA0
  rw [Try.params3] at hA hval
  obtain ⟨v0, v1, d0, d1, p0, p1, rfl, rfl, rfl, h0, h1⟩ := trodAll_two hA
  obtain ⟨rfl, rfl⟩ := trodVars_none hV
  have lt0 : ∀ x ∈ p0, x.block < W.heap.size := by obtain ⟨m, hm⟩ := h0; exact DataW.trod_lt m _ _ _ hm
  have lt1 : ∀ x ∈ p1, x.block < W.heap.size := by obtain ⟨m, hm⟩ := h1; exact DataW.trod_lt m _ _ _ hm
  obtain ⟨a0, c0, P, rfl, hP⟩ := open_list (hval 0 22 v0 rfl rfl) h0
  obtain ⟨a1, c1, S, rfl, hS⟩ := open_list (hval 1 22 v1 rfl rfl) h1
  clear hA0 hval0
  refine (law1_walk a0 a1 c0 c1 P S W hP hS).mono fun e W' ⟨he, bel⟩ => ?_
  subst he
  exact ⟨_, rfl, _, _, _, [], _, [], hW', trodAll_mk1 (shut_bool Try.underlying4 _), trodAll_mk2 (Below.trod laidOut (by kernel_rfl) (of_decide_eq_true (by kernel_rfl)) h0 bel lt0) (Below.trod laidOut (by kernel_rfl) (of_decide_eq_true (by kernel_rfl)) h1 bel lt1), rfl, bel.frame _, fun h => by cases h⟩

theorem reportsRepeats : Rows.FnAddKeyReportsRepeatsAndKeepsListSaid :=
  OpenClaim.holds_of_wide 3 Try.f3 rfl rfl rfl rfl rfl rfl rfl ⟨rfl, rfl, rfl, rfl, rfl⟩ rfl rfl rfl rfl rfl (by kernel_rfl) Try.func3 (by kernel_rfl)
    (of_decide_eq_true (by kernel_rfl)) (by unfold Func.isWrapper; first | (rw [if_pos (by decide +kernel)]; kernel_rfl) | (rw [if_neg (by decide +kernel)]; exact ⟨rfl, rfl⟩))
    (fun os started H enc _ => lifted1 os started H enc)
end Go.Proofs.Qxb6601109a
