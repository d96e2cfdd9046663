import Derived.Test.Qxb6605270aRows
import Derived.Test.Qxb6605270aLaw
import Derived.ProofKit
import Derived.OpenShut
import Derived.ChangeOld
import Derived.Below
import Derived.ChangeSlices
import Derived.ChangeMaps5
import Derived.Deep.SlicePairs
namespace Go.Proofs.Qxb6605270a
open Go.ChangeShapes Go.WideShapes Go.ChangeAt Go.RowKit Go.Deep

theorem own : ownKnob Try.prog.godebug = none := by kernel_rfl
theorem laidOut : laidOutB Try.prog = true := by kernel_rfl

theorem byte_of_wf {n : Int} (h : (Lit.int .u8 n).wf = true) : ((UInt8.ofNat n.toNat).toNat : Int) = n := by
  simp [Lit.wf, IntKind.min, IntKind.max, IntKind.signed, IntKind.bits] at h
  simp
  omega

/-- A byte slice's cells, read. -/
theorem open_bytes {H : Type} {enc : TypeId × Value → H} {W : World} {cs : List Value} {fuel : Nat} {x : DataW H × List MemPlace}
    (h : DataW.trod enc Try.prog W 0 (fun _ => true) true fuel 22 cs = some x) : ∃ (a : Option Addr) (c : Nat) (xs : List UInt8), cs = [.slice a (List.length xs) c] ∧ BS W a xs := by
  rcases open_ints Try.underlying22 Try.underlying5 (by kernel_rfl) h with ⟨hcs, _⟩ | ⟨a, len, cap, zs, hcs, _, hl, hm, hz, _, hc, hwf⟩
  · exact ⟨none, 0, [], hcs, by simp, .inl rfl⟩
  · simp only [if_true] at hz
    have hlen : (((zs.take len).map fun n => UInt8.ofNat n.toNat)).length = len := by simp; omega
    refine ⟨some a, cap, (zs.take len).map fun n => UInt8.ofNat n.toNat, by rw [hlen]; exact hcs, by rw [hlen]; unfold maxLen at hm; omega, ?_⟩
    by_cases h0 : len = 0
    · left; simp [h0]
    · right
      obtain ⟨b, off, spot⟩ := a
      have hspot : spot = none := by simpa [Addr.add] using World.cell?_spot (hc 0 (by omega))
      subst hspot
      refine ⟨b, off, rfl, fun j hj => ?_⟩
      rw [hlen] at hj
      have := hc j (by omega)
      rw [add_plain] at this
      rw [this]
      have hjZ : j < zs.length := by omega
      have hw := hwf _ (List.getElem_mem hjZ)
      have e1 : ((zs.take len).map fun n => UInt8.ofNat n.toNat).getD j 0 = UInt8.ofNat (zs[j]).toNat := by
        rw [List.getD, List.getElem?_map, List.getElem?_take_of_lt hj, List.getElem?_eq_getElem hjZ]; rfl
      have e2 : zs.getD j 0 = zs[j] := by rw [List.getD, List.getElem?_eq_getElem hjZ]; rfl
      rw [e1, e2, bv, byte_of_wf hw]

theorem open_slot {H : Type} {enc : TypeId × Value → H} {W : World} {v : Value} {d : DataW H} {p : List MemPlace} {base : Nat}
    (hval : Value.okWide Try.prog W .any base 22 v) (h : DataW.Trod enc Try.prog W 0 (fun _ => true) true 22 v d p) : ∃ (a : Option Addr) (c : Nat) (xs : List UInt8), v = .slice a (List.length xs) c ∧ BS W a xs := by
  obtain ⟨a0, len0, cap0, rfl⟩ := okWide_slice Try.underlying22 hval
  obtain ⟨fuel, hf⟩ := h
  obtain ⟨a, c, xs, hcs, hb⟩ := open_bytes hf
  simp [Value.cells] at hcs
  obtain ⟨rfl, rfl, rfl⟩ := hcs
  exact ⟨a0, cap0, xs, rfl, hb⟩

theorem open_calls {H : Type} {enc : TypeId × Value → H} {W : World} {v : Value} {d : DataW H} {p : List MemPlace} {base : Nat}
    (hval : Value.okWide Try.prog W .any base 23 v) (h : DataW.Trod enc Try.prog W 0 (fun _ => true) true 23 v d p) :
    ∃ (a : Option Addr) (n c : Nat), v = .slice a n c ∧ n ≤ 9223372036854775807 ∧ ∀ i, i < n → CallAt W a 9223372036854775807 i := by
  obtain ⟨a0, len0, cap0, rfl⟩ := okWide_slice Try.underlying23 hval
  obtain ⟨fuel, hf⟩ := h
  rcases open_slice_pairs Try.underlying23 Try.underlying26 (by kernel_rfl) rfl rfl (by kernel_rfl) (by kernel_rfl) hf with ⟨hcs, _⟩ | ⟨a, len, cap, m, n, V0, V1, D0, D1, P0, P1, hcs, _, hl, hm, hmm, _, hr⟩
  · simp [Value.cells] at hcs
    obtain ⟨rfl, rfl, rfl⟩ := hcs
    exact ⟨none, 0, 0, rfl, by omega, fun i hi => by omega⟩
  · simp [Value.cells] at hcs
    obtain ⟨rfl, rfl, rfl⟩ := hcs
    simp only [if_true] at hmm
    refine ⟨some a, len0, cap0, rfl, by unfold maxLen at hm; omega, fun i hi => ?_⟩
    obtain ⟨hc0, hc1, ht0, ht1⟩ := hr i (by omega)
    obtain ⟨b, off, spot⟩ := a
    have hspot : spot = none := by simpa [Addr.add] using World.cell?_spot (hr 0 (by omega)).1
    subst hspot
    rw [add_plain] at hc0 hc1
    obtain ⟨s, hs, _, hsz⟩ := DataW.trod_string Try.underlying9 ht0
    obtain ⟨ka, kc, xs, hks, hbs⟩ := open_bytes ht1
    simp only [List.cons.injEq, and_true] at hs hks
    rw [hs] at hc0
    rw [hks] at hc1
    refine ⟨b, off, rfl, s, ka, xs, kc, by unfold maxLen at hsz; omega, hbs.1, hc0, ?_, hbs⟩
    rw [Nat.add_assoc]
    exact hc1

set_option maxRecDepth 100000 in
theorem lifted1 (os : Os) (started : os.Started) (H : Type) (enc : TypeId × Value → H) :
    ReturnsInHanded {} Try.checked os 3 .any (Rows.fnScanRangeSetEndScriptSpec.pre6 enc Try.prog Try.f3 Rows.fnScanRangeSetEndScriptRow.domain false) (Rows.fnScanRangeSetEndScriptSpec.post enc Try.prog Try.f3 false true false false) := by
  refine returnsInHanded_of_change (C := Try.checked) own started (by kernel_rfl) Try.func3
    (ChangeSpec.witness6 (enc := enc) (C := Try.checked) false ⟨#[], #[.slice none 0 0, .slice none 0 0, .bool true, .bool true, .slice none 0 0], []⟩ 8 (by kernel_rfl) (by kernel_rfl) (by kernel_rfl) (by kernel_rfl)) ?_
  intro W base args ds gs before hval0 hW hcnd _
  have hval : ∀ (j : Nat) t v, Try.f3.params[j]? = some t → args[j]? = some v → Value.okWide Try.prog W .any base t v := hval0
  have hW' := hW
  obtain ⟨p, q, hA0, hV, rfl, hfz, hnd⟩ := hW
  have hA : DataW.TrodAll enc Try.prog W 0 (fun _ => true) true Try.f3.params.toList args.toList ds p := hA0
  rw [Try.params3] at hA hval
  obtain ⟨v0, _, d0, _, p0, _, hv0, rfl, rfl, h0, hA⟩ := trodAll_cons hA
  obtain ⟨v1, _, d1, _, p1, _, hv1, rfl, rfl, h1, hA⟩ := trodAll_cons hA
  obtain ⟨v2, _, d2, _, p2, _, hv2, rfl, rfl, h2, hA⟩ := trodAll_cons hA
  obtain ⟨v3, _, d3, _, p3, _, hv3, rfl, rfl, h3, hA⟩ := trodAll_cons hA
  obtain ⟨v4, _, d4, _, p4, _, hv4, rfl, rfl, h4, hA⟩ := trodAll_cons hA
  obtain ⟨hv5, rfl, rfl⟩ := trodAll_nil hA
  subst hv5 hv4 hv3 hv2 hv1
  obtain rfl : args = #[v0, v1, v2, v3, v4] := by cases args; simp_all
  obtain ⟨rfl, rfl⟩ := trodVars_none hV
  have lt0 : ∀ x ∈ p0, x.block < W.heap.size := by obtain ⟨m, hm⟩ := h0; exact DataW.trod_lt m _ _ _ hm
  have lt1 : ∀ x ∈ p1, x.block < W.heap.size := by obtain ⟨m, hm⟩ := h1; exact DataW.trod_lt m _ _ _ hm
  have lt4 : ∀ x ∈ p4, x.block < W.heap.size := by obtain ⟨m, hm⟩ := h4; exact DataW.trod_lt m _ _ _ hm
  obtain ⟨a0, c0, S, rfl, hS⟩ := open_slot (hval 0 22 v0 rfl rfl) h0
  obtain ⟨a1, c1, E, rfl, hE⟩ := open_slot (hval 1 22 v1 rfl rfl) h1
  obtain ⟨x1, rfl, rfl, rfl⟩ := open_bool Try.underlying4 (hval 2 4 v2 rfl rfl) h2
  obtain ⟨x2, rfl, rfl, rfl⟩ := open_bool Try.underlying4 (hval 3 4 v3 rfl rfl) h3
  obtain ⟨a4, n, c4, rfl, hn, h5⟩ := open_calls (hval 4 23 v4 rfl rfl) h4
  clear hA0 hval0
  refine (law_walk a0 a1 a4 S E n c0 c1 c4 x1 x2 W hS hE hn h5).mono fun e W' ⟨he, bel⟩ => ?_
  subst he
  exact ⟨_, rfl, _, _, _, [], _, [], hW', trodAll_mk1 (shut_bool Try.underlying4 _),
    trodAll_cons_mk (Below.trod laidOut (by kernel_rfl) (of_decide_eq_true (by kernel_rfl)) h0 bel lt0)
      (trodAll_cons_mk (Below.trod laidOut (by kernel_rfl) (of_decide_eq_true (by kernel_rfl)) h1 bel lt1)
        (trodAll_cons_mk (shut_bool Try.underlying4 _) (trodAll_cons_mk (shut_bool Try.underlying4 _)
          (trodAll_mk1 (Below.trod laidOut (by kernel_rfl) (of_decide_eq_true (by kernel_rfl)) h4 bel lt4))))), rfl, bel.frame _, fun h => by cases h⟩

theorem setEndScript : Rows.FnScanRangeSetEndScriptSaid :=
  OpenClaim.holds_of_wide 3 Try.f3 rfl rfl rfl rfl rfl rfl rfl ⟨rfl, rfl, rfl, rfl, rfl⟩ rfl rfl rfl rfl rfl (by kernel_rfl) Try.func3 (by kernel_rfl)
    (of_decide_eq_true (by kernel_rfl)) (by unfold Func.isWrapper; first | (rw [if_pos (by decide +kernel)]; kernel_rfl) | (rw [if_neg (by decide +kernel)]; exact ⟨rfl, rfl⟩))
    (fun os started H enc _ => lifted1 os started H enc)
end Go.Proofs.Qxb6605270a
