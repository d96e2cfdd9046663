import Derived.Test.Qxb6604795aProg
import Derived.WalkKit
import Derived.WalkSpells
import Derived.Deep.QuietTactic
import Derived.BigQuiet
import Derived.Deep.LoopGhost
import Derived.Deep.OwnRows
import Derived.Deep.CutBlock
import Derived.Deep.DeepCutAuto
import Derived.Deep.RegionWith
namespace Go.Proofs.Qxb6604795a
open Go.RowKit

/-- The same world but for draws. -/
def Drawn (w w' : World) : Prop := ∃ q, w' = w.drewN q
theorem Drawn.refl (w : World) : Drawn w w := ⟨0, rfl⟩
theorem Drawn.more {w w' : World} (h : Drawn w w') (n : Nat) : Drawn w (w'.drewN n) := by obtain ⟨q, rfl⟩ := h; exact ⟨q + n, World.drewN_drewN _ _ _⟩
theorem Drawn.below {w w' : World} (h : Drawn w w') : Below w.heap.size w w' := by obtain ⟨q, rfl⟩ := h; exact ⟨rfl, rfl, rfl, Nat.le_refl _, fun _ _ => rfl⟩
theorem Drawn.trans {a b c : World} (h : Drawn a b) (k : Drawn b c) : Drawn a c := by obtain ⟨q, rfl⟩ := k; exact h.more q

/-- Whatever could be read still reads so. -/
def Keeps (w w' : World) : Prop := ∀ p v, w.cell? p = some v → w'.cell? p = some v
theorem Keeps.refl (w : World) : Keeps w w := fun _ _ h => h
theorem Keeps.trans {a b c : World} (h : Keeps a b) (k : Keeps b c) : Keeps a c := fun p v hp => k p v (h p v hp)
theorem Keeps.below {w w' : World} (h : Below w.heap.size w w') : Keeps w w' := fun p _ hp => (h.cell (p := p) (World.block_lt_of_cell? _ _ hp)).trans hp
theorem Drawn.keeps {w w' : World} (h : Drawn w w') : Keeps w w' := Keeps.below h.below

/-- n cells from the address a on hold f 0, f 1, .. ; the block is not below lo. -/
def CS (lo : Nat) (w : World) (a : Option Addr) (n : Nat) (f : Nat → Value) : Prop :=
  n ≤ 9223372036854775807 ∧ (n = 0 ∨ ∃ b o, a = some ⟨b, o, none⟩ ∧ lo ≤ b ∧ ∀ i, i < n → w.cell? ⟨b, o + i, none⟩ = some (f i))
theorem CS.keeps {lo : Nat} {w w' : World} {a : Option Addr} {n : Nat} {f : Nat → Value} (h : CS lo w a n f) (k : Keeps w w') : CS lo w' a n f := by
  refine ⟨h.1, h.2.imp id ?_⟩
  rintro ⟨b, o, e, hl, hc⟩
  exact ⟨b, o, e, hl, fun i hi => k _ _ (hc i hi)⟩
theorem CS.mono {lo lo' : Nat} {w : World} {a : Option Addr} {n : Nat} {f : Nat → Value} (h : CS lo w a n f) (k : lo' ≤ lo) : CS lo' w a n f := by
  refine ⟨h.1, h.2.imp id ?_⟩
  rintro ⟨b, o, e, hl, hc⟩
  exact ⟨b, o, e, Nat.le_trans k hl, hc⟩
theorem CS.congr {lo : Nat} {w : World} {a : Option Addr} {n : Nat} {f g : Nat → Value} (h : CS lo w a n f) (e : ∀ i, i < n → f i = g i) : CS lo w a n g := by
  refine ⟨h.1, h.2.imp id ?_⟩
  rintro ⟨b, o, ea, hl, hc⟩
  exact ⟨b, o, ea, hl, fun i hi => by rw [hc i hi, e i hi]⟩
theorem cell_setCell_other {w : World} {p a : Addr} {v : Value} (h : p.block ≠ a.block) : (w.setCell a v).cell? p = w.cell? p := by
  exact World.cell?_of_block (Below.heap_setCell _ _ _ _ h)
theorem CS.setCell {lo : Nat} {w : World} {a : Option Addr} {n : Nat} {f : Nat → Value} (h : CS lo w a n f) {p : Addr} (k : p.block < lo) (v : Value) : CS lo (w.setCell p v) a n f := by
  refine ⟨h.1, h.2.imp id ?_⟩
  rintro ⟨b, o, e, hl, hc⟩
  exact ⟨b, o, e, hl, fun i hi => (cell_setCell_other (by show b ≠ p.block; omega)).trans (hc i hi)⟩
theorem CS.at {lo : Nat} {w : World} {a : Option Addr} {n : Nat} {f : Nat → Value} (h : CS lo w a n f) {i : Nat} (hi : i < n) : ∃ b o, a = some ⟨b, o, none⟩ ∧ lo ≤ b ∧ w.cell? ⟨b, o + i, none⟩ = some (f i) := by
  rcases h.2 with h | ⟨b, o, e, hl, hc⟩
  · omega
  · exact ⟨b, o, e, hl, hc i hi⟩
theorem CS.row {lo b : Nat} {w : World} {t : TypeId} {n : Nat} {f : Nat → Value} (h : w.rowIs b t n f) (hl : lo ≤ b) (hn : n ≤ 9223372036854775807) : CS lo w (some ⟨b, 0, none⟩) n f :=
  ⟨hn, .inr ⟨b, 0, rfl, hl, fun i hi => by rw [Nat.zero_add]; exact h.cell hi⟩⟩

/-- n strings. -/
abbrev SS (lo : Nat) (w : World) (a : Option Addr) (n : Nat) (S : Nat → ByteArray) : Prop := CS lo w a n (fun i => .string (S i))
/-- n numbers. -/
abbrev IS (lo : Nat) (w : World) (a : Option Addr) (n : Nat) (T : Nat → Int) : Prop := CS lo w a n (fun i => .int .i64 (T i))

theorem Try.info9 : (Try.prog.info? 9).map (fun i => (i.zero, i.size, i.bytes)) = some (some (.string ByteArray.empty), 1, 16) := by kernel_rfl
theorem Try.info3 : (Try.prog.info? 3).map (fun i => (i.zero, i.size, i.bytes)) = some (some (.int .i64 0), 1, 8) := by kernel_rfl
theorem Try.info35 : (Try.prog.info? 35).map (fun i => (i.zero, i.size, i.bytes)) = some (some (.slice none 0 0), 1, 24) := by kernel_rfl

/-- The block is not below lo, none of its cells is frozen. -/
def Free (lo : Nat) (w : World) (a : Option Addr) : Prop := ∀ b o, a = some ⟨b, o, none⟩ → lo ≤ b ∧ b < w.heap.size ∧ ∀ i, w.frozen? ⟨b, i, none⟩ = false
theorem Free.below {lo : Nat} {w w' : World} {a : Option Addr} (h : Free lo w a) (hb : Below w.heap.size w w') : Free lo w' a := fun b o e =>
  ⟨(h b o e).1, Nat.lt_of_lt_of_le (h b o e).2.1 hb.size, fun i => (hb.frozen (p := ⟨b, i, none⟩) (h b o e).2.1).trans ((h b o e).2.2 i)⟩
theorem Free.row {lo b : Nat} {w : World} {t : TypeId} {n : Nat} {f : Nat → Value} (h : w.rowIs b t n f) (hl : lo ≤ b) : Free lo w (some ⟨b, 0, none⟩) := fun b' o e => by
  cases e
  exact ⟨hl, h.lt, h.frozen⟩
theorem Free.none {lo : Nat} {w : World} : Free lo w Option.none := fun _ _ e => by cases e

/-- What a clone is. -/
def ClonedS (w : World) (n : Nat) (S : Nat → ByteArray) (e : Ending) (w' : World) : Prop := ∃ a', e = .returned (.slice a' n n) ∧ SS w.heap.size w' a' n S ∧ Below w.heap.size w w'
def ClonedI (w : World) (n : Nat) (T : Nat → Int) (e : Ending) (w' : World) : Prop := ∃ a', e = .returned (.slice a' n n) ∧ IS w.heap.size w' a' n T ∧ Below w.heap.size w w' ∧ Free w.heap.size w' a'

set_option maxHeartbeats 400000 in
theorem cloneS_nil (n c : Nat) (w : World) : Calls Try.prog 21 #[.slice none n c] w fun e w' => e = .returned (.slice none 0 0) ∧ w' = w := by
  have hnil := fun (w : World) (a : Option Addr) (n c : Nat) => Lib.run_eql_slice_nil (P := Try.prog) w 35 9 a n c 0 0 Try.underlying35
  go_enter Try.func21, Try.ntmps21
  go_wp2
  go_ret
  exact ⟨rfl, rfl⟩
set_option maxHeartbeats 400000 in
theorem cloneI_nil (n c : Nat) (w : World) : Calls Try.prog 23 #[.slice none n c] w fun e w' => e = .returned (.slice none 0 0) ∧ w' = w := by
  have hnil := fun (w : World) (a : Option Addr) (n c : Nat) => Lib.run_eql_slice_nil (P := Try.prog) w 25 3 a n c 0 0 Try.underlying25
  go_enter Try.func23, Try.ntmps23
  go_wp2
  go_ret
  exact ⟨rfl, rfl⟩

set_option maxHeartbeats 400000 in
theorem cloneS_some (a : Addr) (n c : Nat) (S : Nat → ByteArray) (w : World) (hn : n ≤ 1048576) (h : SS 0 w (some a) n S) : Calls Try.prog 21 #[.slice (some a) n c] w (ClonedS w n S) := by
  have hnil := fun (w : World) (a : Option Addr) (n c : Nat) => Lib.run_eql_slice_nil (P := Try.prog) w 35 9 a n c 0 0 Try.underlying35
  have hmk := fun w => run_make_row' (P := Try.prog) 35 9 (.string ByteArray.empty) 16 Try.underlying35 Try.info9 rfl .i64 .i64 n (by omega) (by omega) w
  go_enter Try.func21, Try.ntmps21
  go_wp2
  go_loopg [4] n (fun g i wr => ∃ (k : Nat) (f : Nat → Value), k + g = n ∧ i = .int .i64 k ∧ wr.rowIs w.heap.size 9 n f ∧ (∀ j, j < k → f j = .string (S j)) ∧ Below w.heap.size w wr)
  case atStart => exact ⟨0, _, by omega, rfl, World.rowIs_made _ _ _ _, fun j hj => by omega, (Below.refl _ _).alloc (Nat.le_refl _) _⟩
  case round =>
    obtain ⟨k, f, hk, rfl, hrow, hf, hbel⟩ := hrel
    by_cases hlt : k < n
    · obtain ⟨b, o, he, _, hc⟩ := (h.keeps (Keeps.below hbel)).at hlt
      cases he
      obtain ⟨s, hs⟩ : ∃ s, s = S k := ⟨_, rfl⟩
      rw [← hs] at hc
      have HS : Hid (s = S k) := hs
      have HK : Hid (k + gk = n) := hk
      have HF : Hid (∀ j, j < k → f j = .string (S j)) := hf
      have g1 := hrow.cell hlt
      have g2 := hrow.frozen k
      clear h hk hs hf
      go_wp2
      have hk := HK.out
      go_roundg (gk - 1)
      case rel =>
        refine ⟨k + 1, _, by omega, by go_num, hrow.set k _, fun j hj => ?_, hbel.setCell (Nat.le_refl _) _⟩
        rcases Nat.lt_succ_iff_lt_or_eq.1 hj with h | rfl
        · rw [if_neg (by omega)]; exact HF.out j h
        · rw [if_pos rfl, HS.out]
      case measure => omega
    · have hkn : k = n := by omega
      subst hkn
      go_wp2
      go_ret
      exact ⟨_, rfl, (CS.row hrow (Nat.le_refl _) h.1).congr hf, hbel⟩

set_option maxHeartbeats 400000 in
theorem cloneI_some (a : Addr) (n c : Nat) (S : Nat → Int) (w : World) (hn : n ≤ 1048576) (h : IS 0 w (some a) n S) : Calls Try.prog 23 #[.slice (some a) n c] w (ClonedI w n S) := by
  have hnil := fun (w : World) (a : Option Addr) (n c : Nat) => Lib.run_eql_slice_nil (P := Try.prog) w 25 3 a n c 0 0 Try.underlying25
  have hmk := fun w => run_make_row' (P := Try.prog) 25 3 (.int .i64 0) 8 Try.underlying25 Try.info3 rfl .i64 .i64 n (by omega) (by omega) w
  go_enter Try.func23, Try.ntmps23
  go_wp2
  go_loopg [4] n (fun g i wr => ∃ (k : Nat) (f : Nat → Value), k + g = n ∧ i = .int .i64 k ∧ wr.rowIs w.heap.size 3 n f ∧ (∀ j, j < k → f j = .int .i64 (S j)) ∧ Below w.heap.size w wr)
  case atStart => exact ⟨0, _, by omega, rfl, World.rowIs_made _ _ _ _, fun j hj => by omega, (Below.refl _ _).alloc (Nat.le_refl _) _⟩
  case round =>
    obtain ⟨k, f, hk, rfl, hrow, hf, hbel⟩ := hrel
    by_cases hlt : k < n
    · obtain ⟨b, o, he, _, hc⟩ := (h.keeps (Keeps.below hbel)).at hlt
      cases he
      obtain ⟨s, hs⟩ : ∃ s, s = S k := ⟨_, rfl⟩
      rw [← hs] at hc
      have HS : Hid (s = S k) := hs
      have HK : Hid (k + gk = n) := hk
      have HF : Hid (∀ j, j < k → f j = .int .i64 (S j)) := hf
      have g1 := hrow.cell hlt
      have g2 := hrow.frozen k
      clear h hk hs hf
      go_wp2
      have hk := HK.out
      go_roundg (gk - 1)
      case rel =>
        refine ⟨k + 1, _, by omega, by go_num, hrow.set k _, fun j hj => ?_, hbel.setCell (Nat.le_refl _) _⟩
        rcases Nat.lt_succ_iff_lt_or_eq.1 hj with h | rfl
        · rw [if_neg (by omega)]; exact HF.out j h
        · rw [if_pos rfl, HS.out]
      case measure => omega
    · have hkn : k = n := by omega
      subst hkn
      go_wp2
      go_ret
      exact ⟨_, rfl, (CS.row hrow (Nat.le_refl _) h.1).congr hf, hbel, Free.row hrow (Nat.le_refl _)⟩

theorem cloneS {a : Option Addr} {n c : Nat} {S : Nat → ByteArray} {w : World} (hn : n ≤ 1048576) (h : SS 0 w a n S) : Calls Try.prog 21 #[.slice a n c] w (ClonedS w n S) := by
  cases a with
  | some a => exact cloneS_some a n c S w hn h
  | none =>
    refine (cloneS_nil n c w).mono ?_
    rintro e w' ⟨rfl, rfl⟩
    obtain rfl : n = 0 := by rcases h.2 with h | ⟨b, o, e, _⟩; exact h; cases e
    exact ⟨none, rfl, ⟨by omega, .inl rfl⟩, Below.refl _ _⟩
theorem cloneI {a : Option Addr} {n c : Nat} {S : Nat → Int} {w : World} (hn : n ≤ 1048576) (h : IS 0 w a n S) : Calls Try.prog 23 #[.slice a n c] w (ClonedI w n S) := by
  cases a with
  | some a => exact cloneI_some a n c S w hn h
  | none =>
    refine (cloneI_nil n c w).mono ?_
    rintro e w' ⟨rfl, rfl⟩
    obtain rfl : n = 0 := by rcases h.2 with h | ⟨b, o, e, _⟩; exact h; cases e
    exact ⟨none, rfl, ⟨by omega, .inl rfl⟩, Below.refl _ _, Free.none⟩

/-- n rows of strings: row i is '.slice (A i) (L i) (C i)', it holds X i. -/
structure Rows2 where
  A : Nat → Option Addr
  L : Nat → Nat
  C : Nat → Nat
  X : Nat → Nat → ByteArray
def Rows2.v (R : Rows2) (i : Nat) : Value := .slice (R.A i) (R.L i) (R.C i)
def LS (lo : Nat) (w : World) (a : Option Addr) (n : Nat) (R : Rows2) : Prop := CS 0 w a n R.v ∧ ∀ i, i < n → SS lo w (R.A i) (R.L i) (R.X i)
theorem LS.keeps {lo : Nat} {w w' : World} {a : Option Addr} {n : Nat} {R : Rows2} (h : LS lo w a n R) (k : Keeps w w') : LS lo w' a n R := ⟨h.1.keeps k, fun i hi => (h.2 i hi).keeps k⟩

/-- What a deep clone is: rows of their own, each just as long as its room. -/
def ClonedL (w : World) (n : Nat) (R : Rows2) (e : Ending) (w' : World) : Prop :=
  ∃ a' A', e = .returned (.slice a' n n) ∧ LS w.heap.size w' a' n ⟨A', R.L, R.L, R.X⟩ ∧ Below w.heap.size w w' ∧ Free w.heap.size w' a'

set_option maxHeartbeats 400000 in
theorem cloneL_nil (n c : Nat) (w : World) : Calls Try.prog 22 #[.slice none n c] w fun e w' => e = .returned (.slice none 0 0) ∧ w' = w := by
  have hnil := fun (w : World) (a : Option Addr) (n c : Nat) => Lib.run_eql_slice_nil (P := Try.prog) w 36 35 a n c 0 0 Try.underlying36
  go_enter Try.func22, Try.ntmps22
  go_wp2
  go_ret
  exact ⟨rfl, rfl⟩

set_option maxHeartbeats 400000 in
theorem cloneL_some (a : Addr) (n c : Nat) (R : Rows2) (w : World) (hn : n ≤ 1048576) (hl : ∀ i, i < n → R.L i ≤ 1048576) (h : LS 0 w (some a) n R) : Calls Try.prog 22 #[.slice (some a) n c] w (ClonedL w n R) := by
  have hnil := fun (w : World) (a : Option Addr) (n c : Nat) => Lib.run_eql_slice_nil (P := Try.prog) w 36 35 a n c 0 0 Try.underlying36
  have hmk := fun w => run_make_row' (P := Try.prog) 36 35 (.slice none 0 0) 24 Try.underlying36 Try.info35 rfl .i64 .i64 n (by omega) (by omega) w
  go_enter Try.func22, Try.ntmps22
  go_wp2
  go_loopg [4] n (fun g i wr => ∃ (k : Nat) (f : Nat → Value) (A' : Nat → Option Addr), k + g = n ∧ i = .int .i64 k ∧ wr.rowIs w.heap.size 35 n f ∧ (∀ j, j < k → f j = .slice (A' j) (R.L j) (R.L j) ∧ SS (w.heap.size + 1) wr (A' j) (R.L j) (R.X j)) ∧ Below w.heap.size w wr)
  case atStart => exact ⟨0, _, fun _ => none, by omega, rfl, World.rowIs_made _ _ _ _, fun j hj => by omega, (Below.refl _ _).alloc (Nat.le_refl _) _⟩
  case round =>
    obtain ⟨k, f, A', hk, rfl, hrow, hf, hbel⟩ := hrel
    by_cases hlt : k < n
    · obtain ⟨b, o, he, _, hc⟩ := (h.1.keeps (Keeps.below hbel)).at hlt
      cases he
      have hs := (h.2 k hlt).keeps (Keeps.below hbel)
      have hll := hl k hlt
      rw [Rows2.v] at hc
      obtain ⟨la, hla⟩ : ∃ la, la = R.A k := ⟨_, rfl⟩
      obtain ⟨lk, hlk⟩ : ∃ lk, lk = R.L k := ⟨_, rfl⟩
      rw [← hla, ← hlk] at hc hs
      rw [← hlk] at hll
      have HL : Hid (lk = R.L k) := hlk
      have HK : Hid (k + gk = n) := hk
      have HF : Hid (∀ j, j < k → f j = .slice (A' j) (R.L j) (R.L j) ∧ SS (w.heap.size + 1) wr (A' j) (R.L j) (R.X j)) := hf
      have hlt2 := hrow.lt
      clear h hk hlk hla hf hl
      go_wp2_with (go_at_call 21; refine (cloneS hll hs).mono ?_; rintro e w1 ⟨a1, rfl, ho1, hb1⟩; have hr1 : w1.rowIs w.heap.size 35 n f := hrow.of_block (hb1.block _ hlt2); have g1 := hr1.cell hlt; have g2 := hr1.frozen k)
      have hk := HK.out
      go_roundg (gk - 1)
      case rel =>
        refine ⟨k + 1, _, fun j => if j = k then a1 else A' j, by omega, by go_num, hr1.set k _, fun j hj => ?_, ?_⟩
        · rcases Nat.lt_succ_iff_lt_or_eq.1 hj with h | rfl
          · dsimp only
            rw [if_neg (show ¬ j = k by omega), if_neg (show ¬ j = k by omega)]
            exact ⟨(HF.out j h).1, ((HF.out j h).2.keeps (Keeps.below hb1)).setCell (by show w.heap.size < w.heap.size + 1; omega) _⟩
          · dsimp only
            rw [if_pos rfl, if_pos rfl, ← HL.out]
            exact ⟨rfl, (ho1.mono (by omega)).setCell (by show w.heap.size < w.heap.size + 1; omega) _⟩
        · exact (hbel.trans (hb1.mono (Nat.le_of_lt hlt2))).setCell (Nat.le_refl _) _
      case measure => omega
    · have hkn : k = n := by omega
      subst hkn
      go_wp2
      go_ret
      exact ⟨_, A', rfl, ⟨(CS.row hrow (Nat.zero_le _) h.1.1).congr (fun i hi => (hf i hi).1), fun i hi => (hf i hi).2.mono (by omega)⟩, hbel, Free.row hrow (Nat.le_refl _)⟩

theorem cloneL {a : Option Addr} {n c : Nat} {R : Rows2} {w : World} (hn : n ≤ 1048576) (hl : ∀ i, i < n → R.L i ≤ 1048576) (h : LS 0 w a n R) : Calls Try.prog 22 #[.slice a n c] w (ClonedL w n R) := by
  cases a with
  | some a => exact cloneL_some a n c R w hn hl h
  | none =>
    refine (cloneL_nil n c w).mono ?_
    rintro e w' ⟨rfl, rfl⟩
    obtain rfl : n = 0 := by rcases h.1.2 with h | ⟨b, o, e, _⟩; exact h; cases e
    exact ⟨none, R.A, rfl, ⟨⟨by omega, .inl rfl⟩, fun i hi => by omega⟩, Below.refl _ _, Free.none⟩
end Go.Proofs.Qxb6604795a
