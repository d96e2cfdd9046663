import Derived.Test.Qxb6604795aMaps
import Derived.ArgAppend
import Derived.OwnWalk
namespace Go.Proofs.Qxb6604795a
open Go.RowKit Go.Maps

theorem add_plain (b off i : Nat) : (⟨b, off, none⟩ : Addr).add i = ⟨b, off + i, none⟩ := by
  unfold Addr.add; split <;> simp_all

/-- The cells of what was appended. -/
theorem cells_new {w : World} {F G Z : Array Value} {e : TypeId} {m : Nat} {f g : Nat → Value} {size : Nat} (hF : F.size = m) (hF2 : ∀ j, j < m → F[j]? = some (f j)) (hG : G.size = size) (hG2 : ∀ j, j < size → G[j]? = some (g j)) (hm : m + size ≤ 9223372036854775807) :
    CS w.heap.size (w.drew.alloc (.cells (F ++ G ++ Z) e)) (some ⟨w.heap.size, 0, none⟩) (m + size) (fun j => if j < m then f j else g (j - m)) := by
  refine ⟨hm, .inr ⟨w.heap.size, 0, rfl, Nat.le_refl _, fun j hj => ?_⟩⟩
  have h0 : (w.drew.alloc (.cells (F ++ G ++ Z) e)).heap[w.heap.size]? = some (.cells (F ++ G ++ Z) e (0, 0)) := heap_alloc_new w.drew _
  rw [World.cell?]
  simp only [h0, Nat.zero_add]
  have hFG : (F ++ G).size = m + size := by simp [hF, hG]
  by_cases hjm : j < m
  · rw [if_pos hjm, Array.getElem?_append_left (by omega), Array.getElem?_append_left (by omega)]
    exact hF2 j hjm
  · rw [if_neg hjm, Array.getElem?_append_left (by omega), Array.getElem?_append_right (by omega), hF]
    exact hG2 (j - m) (by omega)

theorem list_getElem {f : Nat → Value} {m j : Nat} (hj : j < m) : ((List.range m).map f).toArray[j]? = some (f j) := by
  simp [hj]
theorem list_get {f : Nat → Value} {m j : Nat} {v : Value} (h : ((List.range m).map f)[j]? = some v) : j < m ∧ v = f j := by
  rcases Nat.lt_or_ge j m with hl | hl
  · rw [List.getElem?_map, List.getElem?_range hl] at h
    simp at h
    exact ⟨hl, h.symm⟩
  · rw [List.getElem?_eq_none (by simpa using hl)] at h
    cases h

/-- One element more behind a slice that has no room. -/
theorem run_append_one {P : Program} (w : World) (t ty e : TypeId) (i : TypeInfo) (z : Value) (size bytes : Nat) (ht : P.underlying t = some (.slice e)) (hi : P.info? e = some i) (hz : i.zero = some z) (hsize : i.size = size) (hby : i.bytes = bytes) (hsz : 0 < size)
    (A : Option Addr) (n lo : Nat) (f : Nat → Value) (h : CS lo w A (n * size) f) (s : Nat) (g : Nat → Value) (hg : ∀ j, j < size → w.cell? ⟨s, j, none⟩ = some (g j)) (hn : (n + 1) * bytes ≤ 140737488355328) (h63 : (n + 1) * size ≤ 9223372036854775807) :
    ∃ c' w', (Builtin.append_ #[t, t] ty #[.slice A n n, .slice (some ⟨s, 0, none⟩) 1 1]).run P w = .ok (.slice (some ⟨w.heap.size, 0, none⟩) (n + 1) c') w' ∧
      CS w.heap.size w' (some ⟨w.heap.size, 0, none⟩) ((n + 1) * size) (fun j => if j < n * size then f j else g (j - n * size)) ∧ Below w.heap.size w w' := by
  subst hsize hby
  have e1 : (n + 1) * i.size = n * i.size + i.size := by rw [Nat.add_mul, Nat.one_mul]
  have hsmall : n + 1 ≤ 9223372036854775807 := Nat.le_trans (Nat.le_mul_of_pos_right _ hsz) h63
  have hnews : ∀ j v, ((List.range i.size).map g)[j]? = some v → w.cell? ((⟨s, 0, none⟩ : Addr).add j) = some v := by
    intro j v hj
    obtain ⟨hj1, rfl⟩ := list_get hj
    rw [add_plain, Nat.zero_add]
    exact hg j hj1
  cases A with
  | none =>
    have h0 : n = 0 := by
      rcases h.2 with h | ⟨b, o, e, _⟩
      · rcases Nat.mul_eq_zero.1 h with h | h
        · exact h
        · omega
      · cases e
    subst h0
    have hr := run_append_nil (P := P) w t ty e i z ht hi hz ⟨s, 0, none⟩ 1 1 _ (by simp) hnews (by omega) (by omega) (by omega)
    refine ⟨_, _, hr, ?_, ⟨rfl, rfl, rfl, by simp, fun k hk => Below.heap_alloc w.drew _ k hk⟩⟩
    have := cells_new (w := w) (F := #[]) (G := ((List.range i.size).map g).toArray) (Z := Builtin.zeroCells z.cells (grownCap w 1 0 e - 1)) (e := e) (m := 0) (f := f) (g := g) (size := i.size) rfl (fun j hj => by omega) (by simp) (fun j hj => list_getElem hj) (by omega)
    rw [e1, Nat.zero_mul]
    simpa using this
  | some a =>
    have holds : ∀ j v, ((List.range (n * i.size)).map f)[j]? = some v → w.cell? (a.add j) = some v := by
      intro j v hj
      obtain ⟨hj1, rfl⟩ := list_get hj
      rcases h.2 with h | ⟨b, o, e, _, hc⟩
      · omega
      · cases e
        rw [add_plain]
        exact hc j hj1
    have hr := run_append_grow (P := P) w t ty e i z ht hi hz a n n _ (by simp) holds ⟨s, 0, none⟩ 1 1 _ (by simp) hnews (by omega) (by omega) (growslice_fits (by omega) hn)
    refine ⟨_, _, hr, ?_, ⟨rfl, rfl, rfl, by simp, fun k hk => Below.heap_alloc w.drew _ k hk⟩⟩
    rw [e1]
    exact cells_new (by simp) (fun j hj => list_getElem hj) (by simp) (fun j hj => list_getElem hj) (by omega)

/-- .. at the operation. -/
theorem wpList_append_one {P : Program} (w : World) {ops : Array Oper} {rest : List Oper} {o : Oper} {a : Act} {Q : Exit → Act → World → Prop}
    (hg0 : o.guard = none) (sx x : Operand) (t : TypeId) (hop : o.op = Op.call { callee := Callee.builtin Builtin.append, args := #[sx, x], argTypes := #[t, t] })
    (e : TypeId) (i : TypeInfo) (z : Value) (size bytes : Nat) (ht : P.underlying t = some (.slice e)) (hi : P.info? e = some i) (hz : i.zero = some z) (hsize : i.size = size) (hby : i.bytes = bytes) (hsz : 0 < size)
    (A : Option Addr) (n lo : Nat) (f : Nat → Value) (hs : a.eval sx = .slice A n n) (h : CS lo w A (n * size) f) (s : Nat) (g : Nat → Value) (hx : a.eval x = .slice (some ⟨s, 0, none⟩) 1 1) (hg : ∀ j, j < size → w.cell? ⟨s, j, none⟩ = some (g j))
    (hn : (n + 1) * bytes ≤ 140737488355328) (h63 : (n + 1) * size ≤ 9223372036854775807)
    (hK : ∀ c' w', CS w.heap.size w' (some ⟨w.heap.size, 0, none⟩) ((n + 1) * size) (fun j => if j < n * size then f j else g (j - n * size)) → Below w.heap.size w w' →
      wpList P ops Q rest (a.put o.dst (.slice (some ⟨w.heap.size, 0, none⟩) (n + 1) c')) w') :
    wpList P ops Q (o :: rest) a w := by
  refine wpList_plain hg0 fun K' hK' => ?_
  obtain ⟨c', w', hrun, r1, r2⟩ := run_append_one (P := P) w t o.type e i z size bytes ht hi hz hsize hby hsz A n lo f h s g hg hn h63
  unfold Oper.wp
  simp [execOp, hop, resolve, invoke, builtin, hs, hx, hrun, Result.andThen]
  exact hK' _ _ (hK c' w' r1 r2)
end Go.Proofs.Qxb6604795a
