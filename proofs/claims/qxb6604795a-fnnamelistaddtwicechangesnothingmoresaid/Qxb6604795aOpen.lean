import Derived.Test.Qxb6604795aMaps
import Derived.ProofKit
import Derived.OpenShut
import Derived.ChangeOld
import Derived.Below
import Derived.ChangeSlices
import Derived.ChangeMaps5
import Derived.WideKeyElems2
import Derived.Deep.Strs
import Derived.Deep.Slices
namespace Go.Proofs.Qxb6604795a
open Go.ChangeShapes Go.WideShapes Go.ChangeAt Go.RowKit Go.Deep
open Go.WideElems (rg elemAt)

theorem own : ownKnob Try.prog.godebug = none := by kernel_rfl
theorem laidOut : laidOutB Try.prog = true := by kernel_rfl

theorem add_none (b off i : Nat) : (⟨b, off, none⟩ : Addr).add i = ⟨b, off + i, none⟩ := by
  unfold Addr.add; split <;> simp_all

section
variable {H : Type} {enc : TypeId × Value → H} {W : World}

/-- A slice of strings' cells, read. -/
theorem read_strs {cs : List Value} {fuel : Nat} {x : DataW H × List MemPlace} (h : DataW.trod enc Try.prog W 0 (fun _ => true) true fuel 35 cs = some x) :
    ∃ (a : Option Addr) (n c : Nat) (S : Nat → ByteArray), cs = [.slice a n c] ∧ SS 0 W a n S ∧ ∀ i, i < n → (S i).size ≤ 9223372036854775807 := by
  rcases open_strs Try.underlying35 Try.underlying9 (by kernel_rfl) h with ⟨hcs, _⟩ | ⟨a, len, cap, m, S, hcs, _, hl, hm, hmm, _, hr⟩
  · exact ⟨none, 0, 0, fun _ => ByteArray.empty, hcs, ⟨by omega, .inl rfl⟩, fun i hi => by omega⟩
  · simp only [if_true] at hmm
    unfold maxLen at hm
    refine ⟨some a, len, cap, S, hcs, ⟨by omega, ?_⟩, fun i hi => by have := (hr i (by omega)).2; unfold maxLen at this; omega⟩
    by_cases h0 : len = 0
    · exact .inl h0
    · right
      obtain ⟨b, off, spot⟩ := a
      have hspot : spot = none := by simpa [Addr.add] using World.cell?_spot (hr 0 (by omega)).1
      subst hspot
      refine ⟨b, off, rfl, Nat.zero_le _, fun i hi => ?_⟩
      have := (hr i (by omega)).1
      rw [add_none] at this
      exact this

theorem open_strs_arg {v : Value} {d : DataW H} {p : List MemPlace} {base : Nat} (hval : Value.okWide Try.prog W .any base 35 v) (h : DataW.Trod enc Try.prog W 0 (fun _ => true) true 35 v d p) :
    ∃ (a : Option Addr) (n c : Nat) (S : Nat → ByteArray), v = .slice a n c ∧ SS 0 W a n S ∧ ∀ i, i < n → (S i).size ≤ 9223372036854775807 := by
  obtain ⟨a0, len0, cap0, rfl⟩ := okWide_slice Try.underlying35 hval
  obtain ⟨fuel, hf⟩ := h
  obtain ⟨a, n, c, S, hcs, hs, hz⟩ := read_strs hf
  simp [Value.cells] at hcs
  obtain ⟨rfl, rfl, rfl⟩ := hcs
  exact ⟨a0, len0, cap0, S, rfl, hs, hz⟩

theorem open_ints_arg {v : Value} {d : DataW H} {p : List MemPlace} {base : Nat} (hval : Value.okWide Try.prog W .any base 25 v) (h : DataW.Trod enc Try.prog W 0 (fun _ => true) true 25 v d p) :
    ∃ (a : Option Addr) (n c : Nat) (T : Nat → Int), v = .slice a n c ∧ IS 0 W a n T := by
  obtain ⟨a0, len0, cap0, rfl⟩ := okWide_slice Try.underlying25 hval
  obtain ⟨fuel, hf⟩ := h
  rcases open_ints Try.underlying25 Try.underlying3 (by kernel_rfl) hf with ⟨hcs, _⟩ | ⟨a, len, cap, zs, hcs, _, hl, hm, hz, _, hc, hwf⟩
  · simp [Value.cells] at hcs
    obtain ⟨rfl, rfl, rfl⟩ := hcs
    exact ⟨none, 0, 0, fun _ => 0, rfl, ⟨by omega, .inl rfl⟩⟩
  · simp [Value.cells] at hcs
    obtain ⟨rfl, rfl, rfl⟩ := hcs
    simp only [if_true] at hz
    unfold maxLen at hm
    refine ⟨some a, len0, cap0, fun i => zs.getD i 0, rfl, ⟨by omega, ?_⟩⟩
    by_cases h0 : len0 = 0
    · exact .inl h0
    · right
      obtain ⟨b, off, spot⟩ := a
      have hspot : spot = none := by simpa [Addr.add] using World.cell?_spot (hc 0 (by omega))
      subst hspot
      refine ⟨b, off, rfl, Nat.zero_le _, fun i hi => ?_⟩
      have := hc i (by omega)
      rw [add_none] at this
      exact this

theorem open_rows_arg {v : Value} {d : DataW H} {p : List MemPlace} {base : Nat} (hval : Value.okWide Try.prog W .any base 36 v) (h : DataW.Trod enc Try.prog W 0 (fun _ => true) true 36 v d p) :
    ∃ (a : Option Addr) (n c : Nat) (R : Rows2), v = .slice a n c ∧ LS 0 W a n R ∧ ∀ i, i < n → ∀ j, j < R.L i → (R.X i j).size ≤ 9223372036854775807 := by
  obtain ⟨a0, len0, cap0, rfl⟩ := okWide_slice Try.underlying36 hval
  obtain ⟨fuel, hf⟩ := h
  rcases open_slice1 Try.underlying36 (by kernel_rfl) hf with ⟨hcs, _⟩ | ⟨a, len, cap, m, k, V, D, Pl, hcs, _, hl, hm, hmm, _, hr⟩
  · simp [Value.cells] at hcs
    obtain ⟨rfl, rfl, rfl⟩ := hcs
    exact ⟨none, 0, 0, ⟨fun _ => none, fun _ => 0, fun _ => 0, fun _ _ => ByteArray.empty⟩, rfl, ⟨⟨by omega, .inl rfl⟩, fun i hi => by omega⟩, fun i hi => by omega⟩
  · simp [Value.cells] at hcs
    obtain ⟨rfl, rfl, rfl⟩ := hcs
    simp only [if_true] at hmm
    unfold maxLen at hm
    have hall : ∀ i, ∃ q : Option Addr × Nat × Nat × (Nat → ByteArray), i < len0 → V i = .slice q.1 q.2.1 q.2.2.1 ∧ SS 0 W q.1 q.2.1 q.2.2.2 ∧ ∀ j, j < q.2.1 → (q.2.2.2 j).size ≤ 9223372036854775807 := fun i => by
      by_cases hi : i < len0
      · obtain ⟨a', n', c', S', hcs', hs', hz'⟩ := read_strs (hr i (by omega)).2
        simp only [List.cons.injEq, and_true] at hcs'
        exact ⟨⟨a', n', c', S'⟩, fun _ => ⟨hcs', hs', hz'⟩⟩
      · exact ⟨⟨none, 0, 0, fun _ => ByteArray.empty⟩, fun h => absurd h hi⟩
    obtain ⟨q, hq⟩ := Classical.axiomOfChoice hall
    refine ⟨some a, len0, cap0, ⟨fun i => (q i).1, fun i => (q i).2.1, fun i => (q i).2.2.1, fun i => (q i).2.2.2⟩, rfl, ⟨⟨by omega, ?_⟩, fun i hi => (hq i hi).2.1⟩, fun i hi => (hq i hi).2.2⟩
    by_cases h0 : len0 = 0
    · exact .inl h0
    · right
      obtain ⟨b, off, spot⟩ := a
      have hspot : spot = none := by simpa [Addr.add] using World.cell?_spot (hr 0 (by omega)).1
      subst hspot
      refine ⟨b, off, rfl, Nat.zero_le _, fun i hi => ?_⟩
      have := (hr i (by omega)).1
      rw [add_none] at this
      rw [this, Rows2.v]
      exact congrArg some (hq i hi).1

theorem open_map_arg {v : Value} {d : DataW H} {p : List MemPlace} {base : Nat} (hval : Value.okWide Try.prog W .any base 37 v) (h : DataW.Trod enc Try.prog W 0 (fun _ => true) true 37 v d p) :
    ∃ (sz : Nat) (f : ByteArray → Option Int), MapArg H W v sz f ∧ sz ≤ 9223372036854775807 := by
  obtain ⟨a0, rfl⟩ := okWide_map Try.underlying37 hval
  obtain ⟨fuel, hf⟩ := h
  rcases WideElems.open_map Try.underlying37 hf with ⟨hcs, _⟩ | ⟨bm, es, clock, m, rfl, hcs, hb, _, F, _⟩
  · simp [Value.cells] at hcs
    subst hcs
    exact ⟨0, fun _ => none, .inl ⟨rfl, rfl, rfl⟩, by omega⟩
  · simp [Value.cells] at hcs
    subst hcs
    have hown := World.ownsMap_of_fit (R := plainElem Try.prog 3) hb F (fun x _ z hz => elemAt_plainElem_int Try.underlying3 hz)
    obtain ⟨D, hD⟩ : ∃ D, D = (DataW.map ((es.toList.map (rg Try.prog 9 (elemAt enc Try.prog W 0 (fun _ => true) true m 3))).foldr DataW.insert [])) := ⟨_, rfl⟩
    rw [← hD] at hown
    have hall : ∀ s : ByteArray, ∃ c : Int, s.size ≤ 9223372036854775807 → D.atKey (kl s) (.lit (.int .i64 0)) = .lit (.int .i64 c) := fun s => by
      by_cases hs : s.size ≤ 9223372036854775807
      · obtain ⟨c, _, hat, _⟩ := hown.lookup_int law9 Try.underlying37 Try.underlying3 (zero3 W) (key9 hs)
        exact ⟨c, fun _ => hat⟩
      · exact ⟨0, fun h => absurd h hs⟩
    obtain ⟨cv, hcv⟩ := Classical.axiomOfChoice hall
    refine ⟨Maps.size D, fun s => if Maps.has D (kl s) = true then some (cv s) else none, .inr ⟨bm, es.size, rfl, D, hown, rfl, fun s hs => ?_⟩, ?_⟩
    · cases hh : Maps.has D (kl s) with
      | true => simp [hcv s hs, hh]
      | false => simp [Maps.atKey_of_not_has hh, hh]
    · have h1 := hown.size_le
      have h2 := F.size
      unfold maxLen at h2
      omega
end
end Go.Proofs.Qxb6604795a
