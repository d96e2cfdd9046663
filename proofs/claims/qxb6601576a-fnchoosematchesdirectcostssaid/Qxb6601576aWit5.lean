import Derived.Test.Qxb6601576aRows
import Derived.ProofKit
import Derived.OpenShut
import Derived.ChangeOld
import Derived.Handed
namespace Go.Proofs.Qxb6601576a
open Go.ChangeShapes Go.WideShapes Go.ChangeAt Go.RowKit

/-- An input: nothing but zeros. -/
def wit : Input := ⟨#[], #[.int .i64 0, .agg (Array.replicate 1548 (.int .u8 0)), .slice none 0 0, .int .i64 0, .agg (Array.replicate 1548 (.int .u8 0)), .slice none 0 0, .slice none 0 0, .slice none 0 0, .bool false, .agg (Array.replicate 3096 (.int .i64 0))], []⟩

theorem wit_v (os : Os) : (World.plainHolding Try.checked.prog os wit).variablesB Try.checked.prog = true := by kernel_rfl
theorem wit_r (os : Os) : ((World.plainHolding Try.checked.prog os wit).heap.toList.drop Try.checked.prog.globals.size).take ((begin Try.checked.prog (fun _ _ => 0) default).world.heap.size - Try.checked.prog.globals.size) =
      (begin Try.checked.prog (fun _ _ => 0) default).world.heap.toList.drop Try.checked.prog.globals.size := by kernel_rfl

/-! The arguments are of their types. -/
theorem types24 : Try.prog.cellTypes Try.prog.depth 24 = some (List.replicate 1548 5) := by kernel_rfl
theorem types34 : Try.prog.cellTypes Try.prog.depth 34 = some (List.replicate 3096 3) := by kernel_rfl

theorem row_repl {t u : TypeId} {v : Value} {n : Nat} (w : World) (base : Nat) (hts : Try.prog.cellTypes Try.prog.depth t = some (List.replicate n u)) (hc : Cell.okWideB Try.prog w u v = true) : Row.okWide Try.prog w .any base t (Array.replicate n v) := by
  refine ⟨_, hts, ⟨1, by rw [Array.size_replicate, List.length_replicate, Nat.one_mul]⟩, fun i x hx => ⟨u, ?_, ?_⟩⟩
  · have hi : i < n := by
      rcases Nat.lt_or_ge i n with h | h
      · exact h
      · rw [Array.getElem?_eq_none (by rw [Array.size_replicate]; exact h)] at hx; cases hx
    rw [List.length_replicate, List.getElem?_replicate, if_pos (Nat.mod_lt _ (by omega))]
  · have hi : i < n := by
      rcases Nat.lt_or_ge i n with h | h
      · exact h
      · rw [Array.getElem?_eq_none (by rw [Array.size_replicate]; exact h)] at hx; cases hx
    rw [Array.getElem?_replicate, if_pos hi] at hx
    cases hx
    exact Cell.okWide_of_okWideB hc
theorem ok24 (w : World) (base : Nat) : Value.okWide Try.prog w .any base 24 (.agg (Array.replicate 1548 (.int .u8 0))) := by
  simp only [Value.okWide, Try.underlying24]
  exact ⟨_, rfl, by rw [Array.size_replicate]; kernel_rfl, row_repl w base types24 (by kernel_rfl)⟩
theorem ok34 (w : World) (base : Nat) : Value.okWide Try.prog w .any base 34 (.agg (Array.replicate 3096 (.int .i64 0))) := by
  simp only [Value.okWide, Try.underlying34]
  exact ⟨_, rfl, by rw [Array.size_replicate]; kernel_rfl, row_repl w base types34 (by kernel_rfl)⟩
theorem ok_plain (t : TypeId) (v : Value) {w : World} {base : Nat} (h : Value.okWideB Try.prog w t v = true) : Value.okWide Try.prog w .any base t v := Value.okWide_of_okWideB h

theorem wit_args (w : World) (base : Nat) : ∀ (j : Nat) (t : TypeId) (v : Value), (#[3, 24, 30, 3, 24, 30, 31, 32, 4, 34] : Array TypeId)[j]? = some t → wit.args[j]? = some v → Value.okWide Try.prog w .any base t v
  | 0, t, v, ht, hv => by
    have ht : some 3 = some t := ht
    have hv : some (Value.int .i64 0) = some v := hv
    cases ht; cases hv
    exact ok_plain 3 _ (by kernel_rfl)
  | 1, t, v, ht, hv => by
    have ht : some 24 = some t := ht
    have hv : some (Value.agg (Array.replicate 1548 (.int .u8 0))) = some v := hv
    cases ht; cases hv
    exact ok24 w base
  | 2, t, v, ht, hv => by
    have ht : some 30 = some t := ht
    have hv : some (Value.slice none 0 0) = some v := hv
    cases ht; cases hv
    exact ok_plain 30 _ (by kernel_rfl)
  | 3, t, v, ht, hv => by
    have ht : some 3 = some t := ht
    have hv : some (Value.int .i64 0) = some v := hv
    cases ht; cases hv
    exact ok_plain 3 _ (by kernel_rfl)
  | 4, t, v, ht, hv => by
    have ht : some 24 = some t := ht
    have hv : some (Value.agg (Array.replicate 1548 (.int .u8 0))) = some v := hv
    cases ht; cases hv
    exact ok24 w base
  | 5, t, v, ht, hv => by
    have ht : some 30 = some t := ht
    have hv : some (Value.slice none 0 0) = some v := hv
    cases ht; cases hv
    exact ok_plain 30 _ (by kernel_rfl)
  | 6, t, v, ht, hv => by
    have ht : some 31 = some t := ht
    have hv : some (Value.slice none 0 0) = some v := hv
    cases ht; cases hv
    exact ok_plain 31 _ (by kernel_rfl)
  | 7, t, v, ht, hv => by
    have ht : some 32 = some t := ht
    have hv : some (Value.slice none 0 0) = some v := hv
    cases ht; cases hv
    exact ok_plain 32 _ (by kernel_rfl)
  | 8, t, v, ht, hv => by
    have ht : some 4 = some t := ht
    have hv : some (Value.bool false) = some v := hv
    cases ht; cases hv
    exact ok_plain 4 _ (by kernel_rfl)
  | 9, t, v, ht, hv => by
    have ht : some 34 = some t := ht
    have hv : some (Value.agg (Array.replicate 3096 (.int .i64 0))) = some v := hv
    cases ht; cases hv
    exact ok34 w base
  | j + 10, t, v, ht, hv => by
    rw [Array.getElem?_eq_none (by show 10 ≤ j + 10; omega)] at ht
    cases ht

theorem wit_ok (w : World) (base : Nat) : Input.okWide Try.prog w .any base 5 ⟨#[], wit.args, []⟩ := by
  refine ⟨fun o ho => by simp at ho, fun gv hg => by simp at hg, by kernel_rfl, Try.f5, Try.func5, by kernel_rfl, by kernel_rfl, by kernel_rfl, by kernel_rfl, fun j t v ht hv => ?_⟩
  rw [Try.params5] at ht
  exact wit_args w base j t v ht hv

/-! They can be read, and are not too great. -/
theorem mapM_const {α β : Type} (x : β) (f : α → Option β) : ∀ l : List α, (∀ a ∈ l, f a = some x) → l.mapM f = some (List.replicate l.length x)
  | [], _ => rfl
  | a :: l, h => by
    rw [List.mapM_cons, h a (by simp), mapM_const x f l (fun b hb => h b (by simp [hb]))]
    rfl

section
variable {H : Type} (enc : TypeId × Value → H) (w : World)
theorem trod_repl {fuel : Nat} {t e : TypeId} {n c N : Nat} {v : Value} {D : DataW H} (ht : Try.prog.underlying t = some (.array n e)) (hct : Try.prog.cellsOf t = N) (hN : N = n * c) (hce : Try.prog.cellsOf e = c)
    (h : DataW.trod enc Try.prog w 0 (fun _ => true) true fuel e (List.replicate c v) = some (D, [])) : DataW.trod enc Try.prog w 0 (fun _ => true) true (fuel + 1) t (List.replicate N v) = some (.agg (List.replicate n D), []) := by
  unfold DataW.trod
  simp only [ht]
  rw [if_pos (by rw [List.length_replicate, hct]), hce]
  rw [mapM_const (D, []) _ (List.range n) (fun i hi => by
    have hin := List.mem_range.1 hi
    rw [List.drop_replicate, List.take_replicate, show min c (N - i * c) = c by
      have : (i + 1) * c ≤ n * c := Nat.mul_le_mul_right _ hin
      rw [Nat.add_mul, Nat.one_mul] at this
      omega]
    exact h)]
  rw [List.length_range]
  simp

def dB : DataW H := .lit (.int .u8 0)
def dI : DataW H := .lit (.int .i64 0)
theorem trod5 : DataW.trod enc Try.prog w 0 (fun _ => true) true 1 5 (List.replicate 1 (.int .u8 0)) = some (dB, []) := by
  kernel_rfl
theorem trod3 : DataW.trod enc Try.prog w 0 (fun _ => true) true 1 3 (List.replicate 1 (.int .i64 0)) = some (dI, []) := by
  kernel_rfl
def d24 : DataW H := .agg (List.replicate 6 (.agg (List.replicate 258 dB)))
def d34 : DataW H := .agg (List.replicate 2 (.agg (List.replicate 6 (.agg (List.replicate 258 dI)))))
theorem trod24 : DataW.Trod enc Try.prog w 0 (fun _ => true) true 24 (.agg (Array.replicate 1548 (.int .u8 0))) d24 [] := by
  have h1 := trod_repl enc w (t := 23) Try.underlying23 (by kernel_rfl) (show 258 = 258 * 1 by omega) (by kernel_rfl) (trod5 enc w)
  have h2 := trod_repl enc w (t := 24) Try.underlying24 (by kernel_rfl) (show 1548 = 6 * 258 by omega) (by kernel_rfl) h1
  refine ⟨3, ?_⟩
  rw [show (Value.agg (Array.replicate 1548 (.int .u8 0))).cells.toList = List.replicate 1548 (.int .u8 0) from Array.toList_replicate]
  exact h2
theorem trod34 : DataW.Trod enc Try.prog w 0 (fun _ => true) true 34 (.agg (Array.replicate 3096 (.int .i64 0))) d34 [] := by
  have h1 := trod_repl enc w (t := 22) Try.underlying22 (by kernel_rfl) (show 258 = 258 * 1 by omega) (by kernel_rfl) (trod3 enc w)
  have h2 := trod_repl enc w (t := 33) Try.underlying33 (by kernel_rfl) (show 1548 = 6 * 258 by omega) (by kernel_rfl) h1
  have h3 := trod_repl enc w (t := 34) Try.underlying34 (by kernel_rfl) (show 3096 = 2 * 1548 by omega) (by kernel_rfl) h2
  refine ⟨4, ?_⟩
  rw [show (Value.agg (Array.replicate 3096 (.int .i64 0))).cells.toList = List.replicate 3096 (.int .i64 0) from Array.toList_replicate]
  exact h3

theorem trod_small (t : TypeId) (v : Value) (d : DataW H) (h : DataW.trod enc Try.prog w 0 (fun _ => true) true 1 t v.cells.toList = some (d, [])) : DataW.Trod enc Try.prog w 0 (fun _ => true) true t v d [] := ⟨1, h⟩

/-- What is read. -/
def witD : List (DataW H) := [dI, d24, .nil, dI, d24, .nil, .nil, .nil, .lit (.bool false), d34]

theorem wit_whole : DataW.Whole enc Try.prog Try.f5.params.toList [] false w wit.args.toList witD [] [] := by
  refine ⟨[], [], ?_, rfl, rfl, by simp [World.noneFrozen], fun h => by cases h⟩
  rw [Try.params5]
  have nil30 : DataW.Trod enc Try.prog w 0 (fun _ => true) true 30 (.slice none 0 0) .nil [] := trod_small enc w 30 _ _ (by kernel_rfl)
  have nil31 : DataW.Trod enc Try.prog w 0 (fun _ => true) true 31 (.slice none 0 0) .nil [] := trod_small enc w 31 _ _ (by kernel_rfl)
  have nil32 : DataW.Trod enc Try.prog w 0 (fun _ => true) true 32 (.slice none 0 0) .nil [] := trod_small enc w 32 _ _ (by kernel_rfl)
  have b4 : DataW.Trod enc Try.prog w 0 (fun _ => true) true 4 (.bool false) (.lit (.bool false)) [] := trod_small enc w 4 _ _ (by kernel_rfl)
  have i3 : DataW.Trod enc Try.prog w 0 (fun _ => true) true 3 (.int .i64 0) dI [] := ⟨1, trod3 enc w⟩
  exact ⟨[], [], i3, ⟨[], [], trod24 enc w, ⟨[], [], nil30, ⟨[], [], i3, ⟨[], [], trod24 enc w, ⟨[], [], nil30, ⟨[], [], nil31, ⟨[], [], nil32, ⟨[], [], b4, ⟨[], [], trod34 enc w, rfl, rfl⟩, rfl⟩, rfl⟩, rfl⟩, rfl⟩, rfl⟩, rfl⟩, rfl⟩, rfl⟩, rfl⟩

theorem wit_weight : (DataW.weightsEach Try.prog (Try.f5.params.toList ++ (OpenSpec.ofChange Rows.fnChooseMatchesDirectCostsSpec).bare.plain.varTypes Try.prog) ((witD : List (DataW H)) ++ [])).all (· ≤ reachBytes) = true := by kernel_rfl
theorem wit_pre : Rows.fnChooseMatchesDirectCostsSpec.pre6 enc Try.prog Try.f5 Rows.fnChooseMatchesDirectCostsRow.domain false w wit.args :=
  ⟨⟨witD, [], [], wit_whole enc w, rfl⟩, by kernel_rfl, witD, [], [], wit_whole enc w, wit_weight⟩
end

theorem wit_all (os : Os) (H : Type) (enc : TypeId × Value → H) :
    ∃ (w : World) (tape : Tape) (i : Input), w.os = os ∧ (w.forCall tape i).Shaped Try.checked.prog ∧ i.vars = [] ∧ Input.okWide Try.checked.prog (w.forCall tape i) .any w.heap.size 5 i ∧
      Rows.fnChooseMatchesDirectCostsSpec.pre6 enc Try.checked.prog Try.f5 Rows.fnChooseMatchesDirectCostsRow.domain false (w.forCall tape i).memory i.args ∧ ({ modest := false } : Assume).holds Try.checked.prog (lone (Frame.enter Try.checked.prog 5 i.args .normal) [] (w.forCall tape i)) :=
  ⟨World.holding Try.checked.prog os wit, fun _ _ => 0, ⟨#[], wit.args, []⟩, rfl, World.shaped_of_B (wit_v os) (wit_r os), rfl, wit_ok _ _, wit_pre enc _, by
    simp only [Assume.holds]
    exact ⟨by simp, by simp, fun _ => Modest.zero, by simp, by simp⟩⟩
end Go.Proofs.Qxb6601576a
