import Derived.Test.Qxb6605270aProg
import Derived.WalkKit
import Derived.WalkSpells
import Derived.Deep.QuietTactic
import Derived.BigQuiet
import Derived.Deep.LoopGhost
import Derived.Deep.OwnRows
import Derived.Laws.CopyOwn
import Derived.Deep.CutBlock
import Derived.Deep.DeepCutAuto
namespace Go.Proofs.Qxb6605270a
open Go.RowKit

/-- The cell that holds a byte. -/
def bv (x : UInt8) : Value := .int .u8 (x.toNat : Int)

/-- The bytes 'xs' lie behind the address 'a' (which says nothing where there is none). -/
def BS (w : World) (a : Option Addr) (xs : List UInt8) : Prop :=
  xs.length ≤ 9223372036854775807 ∧ (xs = [] ∨ ∃ b o, a = some ⟨b, o, none⟩ ∧ ∀ i, i < xs.length → w.cell? ⟨b, o + i, none⟩ = some (bv (xs.getD i 0)))

theorem add_plain (b off i : Nat) : (⟨b, off, none⟩ : Addr).add i = ⟨b, off + i, none⟩ := by
  unfold Addr.add; split <;> simp_all
theorem drewN_two (w : World) (p q : Nat) : (w.drewN p).drewN q = w.drewN (p + q) := by
  simp [World.drewN, Nat.add_assoc]
theorem ret_bool {a b : Bool} (h : a = b) : Ending.returned (.bool a) = .returned (.bool b) := by rw [h]
theorem ret_int {k : IntKind} {a b : Int} (h : a = b) : Ending.returned (.int k a) = .returned (.int k b) := by rw [h]

/-! ### cloneBytes -/
theorem Try.info5 : (Try.prog.info? 5).map (fun i => (i.zero, i.size, i.bytes)) = some (some (.int .u8 0), 1, 1) := by kernel_rfl
theorem Try.size5 : (Try.prog.info? 5).map (·.size) = some 1 := by kernel_rfl

def cloneV (w : World) (a : Option Addr) (xs : List UInt8) : Value :=
  match a with | none => .slice none 0 0 | some _ => .slice (some ⟨w.heap.size, 0, none⟩) xs.length xs.length
def cloneW (w : World) (a : Option Addr) (xs : List UInt8) : World :=
  match a with | none => w | some _ => w.alloc (.cells (xs.map bv).toArray 5)

theorem setRow_alloc (w : World) (c cs : Array Value) (t : TypeId) : (w.alloc (.cells c t)).setRow w.heap.size cs = w.alloc (.cells cs t) := by
  have h : ∀ (f : Obj → Obj), f (.cells c t) = .cells cs t → (w.heap.push (.cells c t)).modify w.heap.size f = w.heap.push (.cells cs t) := by
    intro f hf
    apply Array.ext_getElem?
    intro i
    rw [Array.getElem?_modify, Array.getElem?_push, Array.getElem?_push]
    by_cases hi : i = w.heap.size
    · subst hi; simp [hf]
    · rw [if_neg (fun e => hi e.symm), if_neg hi, if_neg hi]
  show { w with heap := (w.heap.push (.cells c t)).modify w.heap.size _ } = { w with heap := w.heap.push (.cells cs t) }
  rw [h _ rfl]

theorem bv_one {xs : List UInt8} : ∀ v ∈ xs.map bv, v.oneCell' = true := by
  intro v hv
  obtain ⟨x, _, rfl⟩ := List.mem_map.1 hv
  rfl

set_option maxHeartbeats 400000 in
theorem cloneBytes_nil (n c : Nat) (w : World) :
    Calls Try.prog 5 #[.slice none n c] w fun e w' => e = .returned (.slice none 0 0) ∧ w' = w := by
  have hnil := fun (w : World) (a : Option Addr) (n c : Nat) => Lib.run_eql_slice_nil (P := Try.prog) w 22 5 a n c 0 0 Try.underlying22
  go_enter Try.func5, Try.ntmps5
  go_wp2
  go_ret
  exact ⟨rfl, rfl⟩

set_option maxHeartbeats 400000 in
theorem cloneBytes_some (a : Addr) (xs : List UInt8) (c : Nat) (w : World) (hm : xs.length ≤ 1048576) (hx : ∀ j v, (xs.map bv)[j]? = some v → w.cell? (a.add j) = some v) :
    Calls Try.prog 5 #[.slice (some a) xs.length c] w fun e w' => e = .returned (.slice (some ⟨w.heap.size, 0, none⟩) xs.length xs.length) ∧ w' = w.alloc (.cells (xs.map bv).toArray 5) := by
  have hnil := fun (w : World) (a : Option Addr) (n c : Nat) => Lib.run_eql_slice_nil (P := Try.prog) w 22 5 a n c 0 0 Try.underlying22
  have hmk := fun w => run_make_row' (P := Try.prog) 22 5 (.int .u8 0) 1 Try.underlying22 Try.info5 rfl .i64 .i64 xs.length (by omega) (by omega) w
  have hx' : ∀ o : Obj, ∀ j v, (xs.map bv)[j]? = some v → (w.alloc o).cell? (a.add j) = some v := fun o j v hj => by
    have h := hx j v hj
    exact (World.cell?_alloc_lt _ _ _ (World.block_lt_of_cell? _ _ h)).trans h
  have hcp : (Builtin.copy_ #[22, 22] 3 #[.slice (some ⟨w.heap.size, 0, none⟩) xs.length xs.length, .slice (some a) xs.length c]).run Try.prog (w.alloc (.cells (madeCells #[.int .u8 0] xs.length) 5)) =
      .ok (goInt xs.length) (w.alloc (.cells (xs.map bv).toArray 5)) := by
    have h := run_copy_row (P := Try.prog) (w.alloc (.cells (madeCells #[.int .u8 0] xs.length) 5)) 22 22 3 5 w.heap.size 0 xs.length xs.length a xs.length c _ 5 (xs.map bv) Try.underlying22 Try.size5 (heap_alloc_new w _) (by simp) (hx' _) (by simp [size_madeCells]) bv_one
    rw [h, setRow_alloc, toList_madeCells_one]
    simp
  clear hx hx'
  go_enter Try.func5, Try.ntmps5
  go_wp2
  go_ret
  exact ⟨rfl, rfl⟩

theorem cloneBytes_any {a : Option Addr} {c : Nat} {xs : List UInt8} {w : World} (h : BS w a xs) (hm : xs.length ≤ 1048576) :
    Calls Try.prog 5 #[.slice a xs.length c] w fun e w' => e = .returned (cloneV w a xs) ∧ w' = cloneW w a xs := by
  cases a with
  | none =>
    refine (cloneBytes_nil xs.length c w).mono ?_
    rintro e w' ⟨rfl, rfl⟩
    exact ⟨rfl, rfl⟩
  | some a =>
    refine (cloneBytes_some a xs c w hm ?_).mono ?_
    · intro j v hj
      rcases h.2 with rfl | ⟨b, o, he, hc⟩
      · simp at hj
      · cases he
        rw [List.getElem?_map, Option.map_eq_some_iff] at hj
        obtain ⟨x, hx, rfl⟩ := hj
        have hl : j < xs.length := by
          rcases Nat.lt_or_ge j xs.length with h | h
          · exact h
          · rw [List.getElem?_eq_none h] at hx; cases hx
        rw [add_plain, hc j hl]
        simp [List.getD, hx]
    · rintro e w' ⟨rfl, rfl⟩
      exact ⟨rfl, rfl⟩

theorem BS.below {w w' : World} {a : Option Addr} {xs : List UInt8} (h : BS w a xs) (hb : Below w.heap.size w w') : BS w' a xs := by
  refine ⟨h.1, ?_⟩
  rcases h.2 with h | ⟨b, o, he, hc⟩
  · exact .inl h
  · exact .inr ⟨b, o, he, fun i hi => (hb.cell (p := ⟨b, o + i, none⟩) (World.block_lt_of_cell? _ _ (hc i hi))).trans (hc i hi)⟩

/-- The slice value 'v' holds some bytes. -/
def Elt (w : World) (v : Value) (xs : List UInt8) : Prop := ∃ a c, v = .slice a xs.length c ∧ BS w a xs

/-- 'v' is a byte slice of the call's own (a block between 'lo' and 'hi'), or nil: it holds 'xs'. -/
def Own (w : World) (lo hi : Nat) (v : Value) (xs : List UInt8) : Prop :=
  (v = .slice none 0 0 ∧ xs = []) ∨ ∃ b, lo ≤ b ∧ b < hi ∧ v = .slice (some ⟨b, 0, none⟩) xs.length xs.length ∧ w.heap[b]? = some (.cells (xs.map bv).toArray 5 (0, 0))

theorem Own.mono {w w' : World} {lo hi lo' hi' : Nat} {v : Value} {xs : List UInt8} (h : Own w lo hi v xs) (h1 : lo' ≤ lo) (h2 : hi ≤ hi') (hk : ∀ b, lo ≤ b → b < hi → w'.heap[b]? = w.heap[b]?) : Own w' lo' hi' v xs := by
  rcases h with h | ⟨b, hb1, hb2, hv, hh⟩
  · exact .inl h
  · exact .inr ⟨b, by omega, by omega, hv, (hk b hb1 hb2).trans hh⟩

theorem Own.elt {w : World} {lo hi : Nat} {v : Value} {xs : List UInt8} (h : Own w lo hi v xs) (hm : xs.length ≤ 9223372036854775807) : Elt w v xs := by
  rcases h with ⟨rfl, rfl⟩ | ⟨b, hb1, hb2, hv, hh⟩
  · exact ⟨none, 0, rfl, by simp, .inl rfl⟩
  · refine ⟨_, _, hv, hm, .inr ⟨b, 0, rfl, fun i hi => ?_⟩⟩
    simp [World.cell?, hh, hi]

theorem Own.shape {w : World} {lo hi : Nat} {v : Value} {xs : List UInt8} (h : Own w lo hi v xs) : ∃ a c, v = .slice a xs.length c := by
  rcases h with ⟨rfl, rfl⟩ | ⟨b, hb1, hb2, hv, hh⟩
  · exact ⟨_, _, rfl⟩
  · exact ⟨_, _, hv⟩

theorem cloneBytes_own {a : Option Addr} {c : Nat} {xs : List UInt8} {w : World} (h : BS w a xs) (hm : xs.length ≤ 1048576) :
    Calls Try.prog 5 #[.slice a xs.length c] w fun e w' => ∃ a' c', e = .returned (.slice a' xs.length c') ∧ Own w' w.heap.size w'.heap.size (.slice a' xs.length c') xs ∧ Below w.heap.size w w' := by
  refine (cloneBytes_any h hm).mono ?_
  rintro e w' ⟨rfl, rfl⟩
  cases a with
  | none =>
    have hx : xs = [] := by
      rcases h.2 with h | ⟨b, o, h, _⟩
      · exact h
      · cases h
    subst hx
    exact ⟨none, 0, rfl, .inl ⟨rfl, rfl⟩, Below.refl _ _⟩
  | some a =>
    refine ⟨_, _, rfl, .inr ⟨w.heap.size, Nat.le_refl _, ?_, rfl, heap_alloc_new w _⟩, (Below.refl _ _).alloc (Nat.le_refl _) _⟩
    simp [cloneW]


set_option maxHeartbeats 400000 in
theorem same_zero (a : Option Addr) (c : Nat) (w : World) : Calls Try.prog 8 #[.slice a 0 c, .slice a 0 c] w fun e w' => e = .returned (.bool true) ∧ ∃ q, w' = w.drewN q := by
  have hnil := fun (w : World) (a : Option Addr) (n c : Nat) => Lib.run_eql_slice_nil (P := Try.prog) w 22 5 a n c 0 0 Try.underlying22
  have hb : (a.isNone != a.isNone) = false := by simp
  go_enter Try.func8, Try.ntmps8
  go_wp2
  refine wp_loop_once ?_
  go_wp2
  go_ret
  exact ⟨rfl, 0, rfl⟩

set_option maxHeartbeats 400000 in
/-- A slice is the same as itself. -/
theorem same_walk (b o n c : Nat) (X : Nat → Int) (w : World) (hm : n ≤ 9223372036854775807) (h1 : ∀ i, i < n → w.cell? ⟨b, o + i, none⟩ = some (.int .u8 (X i))) :
    Calls Try.prog 8 #[.slice (some ⟨b, o, none⟩) n c, .slice (some ⟨b, o, none⟩) n c] w fun e w' => e = .returned (.bool true) ∧ ∃ q, w' = w.drewN q := by
  have hnil := fun (w : World) (a : Option Addr) (n c : Nat) => Lib.run_eql_slice_nil (P := Try.prog) w 22 5 a n c 0 0 Try.underlying22
  have hnn : ((n : Int) != (n : Int)) = false := by simp
  go_enter Try.func8, Try.ntmps8
  go_wp2
  go_loopg [5] n (fun g i wr => ∃ k : Nat, k + g = n ∧ i = .int .i64 k ∧ ∃ q, wr = w.drewN q)
  case atStart => exact ⟨0, by omega, rfl, 0, rfl⟩
  case round =>
    obtain ⟨k, hk, rfl, q, rfl⟩ := hrel
    by_cases hlt : k < n
    · have g1 := h1 k hlt
      have HK : Hid (k + gk = n) := hk
      clear h1 hk
      have hlt' : (k : Int) < n := by omega
      have hd : (X k != X k) = false := by simp
      go_wp2
      go_quiet (fail)
      go_wp2
      have hk := HK.out
      go_roundg (gk - 1)
      case rel => exact ⟨k + 1, by omega, by go_num, q + nq, by first | rfl | exact drewN_two _ _ _⟩
      case measure => omega
    · go_wp2
      go_ret
      exact ⟨rfl, q, rfl⟩

theorem same_any {v : Value} {xs : List UInt8} {w : World} (h : Elt w v xs) : Calls Try.prog 8 #[v, v] w fun e w' => e = .returned (.bool true) ∧ ∃ q, w' = w.drewN q := by
  obtain ⟨a, c, rfl, hm, rfl | ⟨b, o, rfl, hc⟩⟩ := h
  · exact same_zero a c w
  · exact same_walk b o xs.length c (fun i => ((xs.getD i 0).toNat : Int)) w hm hc
end Go.Proofs.Qxb6605270a
