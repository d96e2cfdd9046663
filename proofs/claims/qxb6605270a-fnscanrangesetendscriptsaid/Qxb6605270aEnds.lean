import Derived.Test.Qxb6605270aLeaf
namespace Go.Proofs.Qxb6605270a
open Go.RowKit

/-- Which side a name names (1 start, 2 end, 0 none), and whether exclusive. -/
def sd (nm : ByteArray) : Int × Bool :=
  if (nm.toList == [115, 116, 97, 114, 116]) = true then (1, false)
  else if (nm.toList == [101, 120, 99, 108, 95, 115, 116, 97, 114, 116]) = true then (1, true)
  else if (nm.toList == [101, 110, 100]) = true then (2, false)
  else if (nm.toList == [101, 120, 99, 108, 95, 101, 110, 100]) = true then (2, true)
  else (0, false)

theorem ret_two {a b : Int} {c d : Bool} (h : (a, c) = (b, d)) : Ending.returned (.tuple #[.int .i64 a, .bool c]) = .returned (.tuple #[.int .i64 b, .bool d]) := by
  cases h; rfl

theorem cases_sd (nm : ByteArray) {p : Prop} (h1 : (nm.toList == [115, 116, 97, 114, 116]) = true → sd nm = (1, false) → p)
    (h2 : (nm.toList == [115, 116, 97, 114, 116]) = false → (nm.toList == [101, 120, 99, 108, 95, 115, 116, 97, 114, 116]) = true → sd nm = (1, true) → p)
    (h3 : (nm.toList == [115, 116, 97, 114, 116]) = false → (nm.toList == [101, 120, 99, 108, 95, 115, 116, 97, 114, 116]) = false → (nm.toList == [101, 110, 100]) = true → sd nm = (2, false) → p)
    (h4 : (nm.toList == [115, 116, 97, 114, 116]) = false → (nm.toList == [101, 120, 99, 108, 95, 115, 116, 97, 114, 116]) = false → (nm.toList == [101, 110, 100]) = false → (nm.toList == [101, 120, 99, 108, 95, 101, 110, 100]) = true → sd nm = (2, true) → p)
    (h5 : (nm.toList == [115, 116, 97, 114, 116]) = false → (nm.toList == [101, 120, 99, 108, 95, 115, 116, 97, 114, 116]) = false → (nm.toList == [101, 110, 100]) = false → (nm.toList == [101, 120, 99, 108, 95, 101, 110, 100]) = false → sd nm = (0, false) → p) : p := by
  cases e1 : (nm.toList == [115, 116, 97, 114, 116]) with
  | true => exact h1 e1 (by simp [sd, e1])
  | false =>
  cases e2 : (nm.toList == [101, 120, 99, 108, 95, 115, 116, 97, 114, 116]) with
  | true => exact h2 e1 e2 (by rw [sd, e1, e2]; simp)
  | false =>
  cases e3 : (nm.toList == [101, 110, 100]) with
  | true => exact h3 e1 e2 e3 (by rw [sd, e1, e2, e3]; simp)
  | false =>
  cases e4 : (nm.toList == [101, 120, 99, 108, 95, 101, 110, 100]) with
  | true => exact h4 e1 e2 e3 e4 (by rw [sd, e1, e2, e3, e4]; simp)
  | false => exact h5 e1 e2 e3 e4 (by rw [sd, e1, e2, e3, e4]; simp)

set_option maxHeartbeats 400000 in
theorem named_walk (nm : ByteArray) (w : World) : Calls Try.prog 7 #[.string nm] w fun e w' => e = .returned (.tuple #[.int .i64 (sd nm).1, .bool (sd nm).2]) ∧ w' = w := by
  refine cases_sd nm (fun e1 h => ?_) (fun e1 e2 h => ?_) (fun e1 e2 e3 h => ?_) (fun e1 e2 e3 e4 h => ?_) (fun e1 e2 e3 e4 h => ?_)
  all_goals
    have HS : Hid (sd nm = _) := h
    clear h
    go_enter Try.func7, Try.ntmps7
    go_wp2
    go_ret2
    exact ⟨by rw [HS.out]; rfl, rfl⟩

/-- A scan range. -/
structure Rng where
  s : Value
  e : Value
  xs : Bool
  xe : Bool
def Rng.cells (r : Rng) : Array Value := #[r.s, r.e, .bool r.xs, .bool r.xe]
/-- What one call makes of it. -/
def Rng.set (r : Rng) (nm : ByteArray) (k : Value) : Rng :=
  if (sd nm).1 = 1 then { r with s := k, xs := (sd nm).2 } else if (sd nm).1 = 2 then { r with e := k, xe := (sd nm).2 } else r

theorem rng_facts {w : World} {rb : Nat} {r : Rng} (h : w.heap[rb]? = some (.cells r.cells 30 (0, 0))) :
    w.cell? ⟨rb, 0, none⟩ = some r.s ∧ w.cell? ⟨rb, 1, none⟩ = some r.e ∧ w.cell? ⟨rb, 2, none⟩ = some (.bool r.xs) ∧ w.cell? ⟨rb, 3, none⟩ = some (.bool r.xe) ∧ ∀ o, w.frozen? ⟨rb, o, none⟩ = false := by
  refine ⟨?_, ?_, ?_, ?_, fun o => ?_⟩ <;> simp [World.cell?, World.frozen?, h, Rng.cells]

def SetSays (w : World) (rb : Nat) (r : Rng) (nm : ByteArray) (k : Value) (e : Ending) (w' : World) : Prop :=
  e = .returned (.bool ((sd nm).1 != 0)) ∧ w'.heap[rb]? = some (.cells (r.set nm k).cells 30 (0, 0)) ∧ w.grownBy w' (some rb)

theorem two_sets {w : World} {rb i j : Nat} {c : Array Value} (h : w.heap[rb]? = some (.cells c 30 (0, 0))) (u v : Value) :
    ((w.setCell ⟨rb, i, none⟩ u).setCell ⟨rb, j, none⟩ v).heap[rb]? = some (.cells ((c.setIfInBounds i u).setIfInBounds j v) 30 (0, 0)) ∧ w.grownBy ((w.setCell ⟨rb, i, none⟩ u).setCell ⟨rb, j, none⟩ v) (some rb) := by
  refine ⟨by simp [World.setCell, Array.getElem?_modify, h], rfl, rfl, rfl, by simp [World.setCell], fun k hk hne => ?_⟩
  have hne' : k ≠ rb := fun e => hne (by rw [e])
  rw [Below.heap_setCell _ _ _ _ hne', Below.heap_setCell _ _ _ _ hne']

set_option maxHeartbeats 400000 in
theorem set_walk (rb : Nat) (r : Rng) (nm : ByteArray) (a : Option Addr) (l c : Nat) (w : World) (h : w.heap[rb]? = some (.cells r.cells 30 (0, 0))) :
    Calls Try.prog 6 #[.pointer (some ⟨rb, 0, none⟩), .string nm, .slice a l c] w (SetSays w rb r nm (.slice a l c)) := by
  obtain ⟨g0, g1, g2, g3, gf⟩ := rng_facts h
  refine cases_sd nm (fun e1 hs => ?_) (fun e1 e2 hs => ?_) (fun e1 e2 e3 hs => ?_) (fun e1 e2 e3 e4 hs => ?_) (fun e1 e2 e3 e4 hs => ?_)
  · have HS : Hid (sd nm = (1, false)) := hs
    clear hs
    have e2 : (nm.toList == [101, 120, 99, 108, 95, 115, 116, 97, 114, 116]) = false := by
      have := eq_of_beq e1
      rw [this]; decide
    have H := two_sets h (i := 0) (j := 2) (.slice a l c) (.bool false)
    go_enter Try.func6, Try.ntmps6
    go_wp2
    go_ret
    refine ⟨by rw [HS.out]; rfl, ?_, H.2⟩
    rw [H.1]; simp [Rng.set, HS.out, Rng.cells]
  · have HS : Hid (sd nm = (1, true)) := hs
    clear hs
    have H := two_sets h (i := 0) (j := 2) (.slice a l c) (.bool true)
    go_enter Try.func6, Try.ntmps6
    go_wp2
    go_ret
    refine ⟨by rw [HS.out]; rfl, ?_, H.2⟩
    rw [H.1]; simp [Rng.set, HS.out, Rng.cells]
  · have HS : Hid (sd nm = (2, false)) := hs
    clear hs
    have e4 : (nm.toList == [101, 120, 99, 108, 95, 101, 110, 100]) = false := by
      have := eq_of_beq e3
      rw [this]; decide
    have H := two_sets h (i := 1) (j := 3) (.slice a l c) (.bool false)
    go_enter Try.func6, Try.ntmps6
    go_wp2
    go_ret
    refine ⟨by rw [HS.out]; rfl, ?_, H.2⟩
    rw [H.1]; simp [Rng.set, HS.out, Rng.cells]
  · have HS : Hid (sd nm = (2, true)) := hs
    clear hs
    have H := two_sets h (i := 1) (j := 3) (.slice a l c) (.bool true)
    go_enter Try.func6, Try.ntmps6
    go_wp2
    go_ret
    refine ⟨by rw [HS.out]; rfl, ?_, H.2⟩
    rw [H.1]; simp [Rng.set, HS.out, Rng.cells]
  · have HS : Hid (sd nm = (0, false)) := hs
    clear hs
    go_enter Try.func6, Try.ntmps6
    go_wp2
    go_ret
    refine ⟨by rw [HS.out]; rfl, ?_, ⟨rfl, rfl, rfl, Nat.le_refl _, fun _ _ _ => rfl⟩⟩
    rw [h]; simp [Rng.set, HS.out]
end Go.Proofs.Qxb6605270a
