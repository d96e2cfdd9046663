import Derived.Test.Qxb6601109aFind
import Derived.Maps.OwnSet
namespace Go.Proofs.Qxb6601109a
open Go.RowKit Go.Maps

theorem law9 : Keyed Try.prog 9 := string_keyed Try.underlying9
theorem zero4 (w : World) : (zeroValue 4).run Try.prog w = .ok (.bool false) w := by kernel_rfl
theorem make36 (w : World) : (Instr.makeMap 36 (some (.int .i64 16))).run Try.prog w = .ok (.map (some w.heap.size)) (w.alloc (.map #[] 0)) := by
  simp [Instr.makeMap, run_underlying Try.underlying36]
  rfl

/-- Block 'mb' is a set of strings: just those of 'D' are in it (at most n entries). -/
def SetOf (w : World) (mb n : Nat) (D : List (List UInt8)) : Prop :=
  ∃ Dm : DataW Unit, w.ownsMap Try.prog 9 (plainElem Try.prog 4) mb n Dm ∧ ∀ xs, Dm.atKey (.string xs) (.lit (.bool false)) = .lit (.bool (decide (xs ∈ D)))

theorem SetOf.made (w : World) : SetOf (w.alloc (.map #[] 0)) w.heap.size 0 [] :=
  ⟨.map [], World.ownsMap_made _ _ _ _, fun xs => by simp [DataW.atKey]⟩
theorem SetOf.lt {w : World} {mb n : Nat} {D : List (List UInt8)} (h : SetOf w mb n D) : mb < w.heap.size := by
  obtain ⟨Dm, h, _⟩ := h
  exact h.lt
theorem SetOf.kept {w w' : World} {mb n : Nat} {D : List (List UInt8)} (h : SetOf w mb n D) (hb : w'.heap[mb]? = w.heap[mb]?) : SetOf w' mb n D := by
  obtain ⟨Dm, ⟨es, clock, h1, h2⟩, h3⟩ := h
  exact ⟨Dm, ⟨es, clock, hb.trans h1, h2⟩, h3⟩
theorem SetOf.notCells {w : World} {mb n : Nat} {D : List (List UInt8)} (h : SetOf w mb n D) {c : Array Value} {t : TypeId} {fz : Nat × Nat} {b : Nat} (hb : w.heap[b]? = some (.cells c t fz)) : mb ≠ b := by
  obtain ⟨Dm, ⟨es, clock, h1, h2⟩, h3⟩ := h
  rintro rfl
  rw [hb] at h1
  cases h1

theorem keyOf_str {xs : List UInt8} (hm : xs.length ≤ 1048576) : keyOf Try.prog 9 (.string (str xs)) = some (.string xs) := by
  have := WideMaps.keyOf_string_mk (s := str xs) Try.underlying9 (by simp [str, ByteArray.size, maxLen]; omega)
  simpa [str] using this

theorem SetOf.lookup {w : World} {mb n : Nat} {D : List (List UInt8)} (h : SetOf w mb n D) {xs : List UInt8} (hm : xs.length ≤ 1048576) :
    (Instr.lookup 36 (.map (some mb)) (.string (str xs)) false).run Try.prog w = .ok (.bool (decide (xs ∈ D))) w := by
  obtain ⟨Dm, h1, h3⟩ := h
  obtain ⟨v, ps, hrun, hv⟩ := h1.lookup law9 Try.underlying36 (zero4 w) (plainElem_bool Try.underlying4 false) (keyOf_str hm)
  rw [h3] at hv
  have : v = .bool (decide (xs ∈ D)) := by
    unfold plainElem at hv
    rw [Try.underlying4] at hv
    cases v <;> simp at hv
    rw [hv.1]
  rw [hrun, this]

theorem SetOf.update {w : World} {mb n : Nat} {D : List (List UInt8)} (h : SetOf w mb n D) (hn : n ≤ 1048576) {xs : List UInt8} (hm : xs.length ≤ 1048576) :
    ∃ w', (Instr.mapUpdate 36 (.map (some mb)) (.string (str xs)) (.bool true)).run Try.prog w = .ok () w' ∧ SetOf w' mb (n + 1) (D ++ [xs]) ∧ w.grownBy w' (some mb) := by
  obtain ⟨Dm, h1, h3⟩ := h
  obtain ⟨w', hrun, ho, hg⟩ := h1.update law9 Try.underlying36 (by unfold maxLen; omega) (keyOf_str hm) (plainElem_bool Try.underlying4 true)
  refine ⟨w', hrun, ⟨_, ho, fun ys => ?_⟩, hg⟩
  by_cases e : ys = xs
  · subst e
    rw [atKey_put_same h1.isMap (by first | exact trivial | simp [WideAt.IsKeyLit])]
    simp
  · rw [atKey_put_other (by simpa using e), h3]
    simp [e]
end Go.Proofs.Qxb6601109a
