import Derived.Test.Qxb6601576aProg
import Derived.WalkKit
import Derived.WalkSpells
import Derived.Deep.QuietTactic
import Derived.BigQuiet
import Derived.Deep.LoopGhost
import Derived.Deep.OwnRows
import Derived.Deep.WholeRow
import Derived.Deep.CutBlock
import Derived.Deep.DeepCutAuto
import Derived.Deep.RegionWith
import Derived.Laws.BitsAllLaws
namespace Go.Proofs.Qxb6601576a
open Go.RowKit

/-- The same world but for draws. -/
def Drawn (w w' : World) : Prop := ∃ q, w' = w.drewN q
theorem Drawn.refl (w : World) : Drawn w w := ⟨0, rfl⟩
theorem Drawn.more {w w' : World} (h : Drawn w w') (n : Nat) : Drawn w (w'.drewN n) := by obtain ⟨q, rfl⟩ := h; exact ⟨q + n, World.drewN_drewN _ _ _⟩
theorem Drawn.below {w w' : World} (h : Drawn w w') : Below w.heap.size w w' := by obtain ⟨q, rfl⟩ := h; exact ⟨rfl, rfl, rfl, Nat.le_refl _, fun _ _ => rfl⟩
theorem Drawn.trans {a b c : World} (h : Drawn a b) (k : Drawn b c) : Drawn a c := by obtain ⟨q, rfl⟩ := k; exact h.more q

/-- Whatever could be read still reads so. -/
def Keeps (w w' : World) : Prop := ∀ p v, w.cell? p = some v → w'.cell? p = some v
theorem Keeps.refl (w : World) : Keeps w w := fun _ _ h => h
theorem Keeps.trans {a b c : World} (h : Keeps a b) (k : Keeps b c) : Keeps a c := fun p v hp => k p v (h p v hp)
theorem Keeps.below {w w' : World} (h : Below w.heap.size w w') : Keeps w w' := fun p _ hp => (h.cell (p := p) (World.block_lt_of_cell? _ _ hp)).trans hp
theorem Drawn.keeps {w w' : World} (h : Drawn w w') : Keeps w w' := Keeps.below h.below

/-- n cells from the address a on hold f 0, f 1, .. ; the block is not below lo. -/
def CS (lo : Nat) (w : World) (a : Option Addr) (n : Nat) (f : Nat → Value) : Prop :=
  n ≤ 9223372036854775807 ∧ (n = 0 ∨ ∃ b o, a = some ⟨b, o, none⟩ ∧ lo ≤ b ∧ ∀ i, i < n → w.cell? ⟨b, o + i, none⟩ = some (f i))
theorem CS.keeps {lo : Nat} {w w' : World} {a : Option Addr} {n : Nat} {f : Nat → Value} (h : CS lo w a n f) (k : Keeps w w') : CS lo w' a n f := by
  refine ⟨h.1, h.2.imp id ?_⟩
  rintro ⟨b, o, e, hl, hc⟩
  exact ⟨b, o, e, hl, fun i hi => k _ _ (hc i hi)⟩
theorem CS.mono {lo lo' : Nat} {w : World} {a : Option Addr} {n : Nat} {f : Nat → Value} (h : CS lo w a n f) (k : lo' ≤ lo) : CS lo' w a n f := by
  refine ⟨h.1, h.2.imp id ?_⟩
  rintro ⟨b, o, e, hl, hc⟩
  exact ⟨b, o, e, Nat.le_trans k hl, hc⟩
theorem CS.congr {lo : Nat} {w : World} {a : Option Addr} {n : Nat} {f g : Nat → Value} (h : CS lo w a n f) (e : ∀ i, i < n → f i = g i) : CS lo w a n g := by
  refine ⟨h.1, h.2.imp id ?_⟩
  rintro ⟨b, o, ea, hl, hc⟩
  exact ⟨b, o, ea, hl, fun i hi => by rw [hc i hi, e i hi]⟩
theorem cell_setCell_other {w : World} {p a : Addr} {v : Value} (h : p.block ≠ a.block) : (w.setCell a v).cell? p = w.cell? p := by
  exact World.cell?_of_block (Below.heap_setCell _ _ _ _ h)
theorem CS.at {lo : Nat} {w : World} {a : Option Addr} {n : Nat} {f : Nat → Value} (h : CS lo w a n f) {i : Nat} (hi : i < n) : ∃ b o, a = some ⟨b, o, none⟩ ∧ lo ≤ b ∧ w.cell? ⟨b, o + i, none⟩ = some (f i) := by
  rcases h.2 with h | ⟨b, o, e, hl, hc⟩
  · omega
  · exact ⟨b, o, e, hl, hc i hi⟩
theorem CS.row {lo b : Nat} {w : World} {t : TypeId} {n : Nat} {f : Nat → Value} (h : w.rowIs b t n f) (hl : lo ≤ b) (hn : n ≤ 9223372036854775807) : CS lo w (some ⟨b, 0, none⟩) n f :=
  ⟨hn, .inr ⟨b, 0, rfl, hl, fun i hi => by rw [Nat.zero_add]; exact h.cell hi⟩⟩

/-- n bytes, n entries, n starts. -/
abbrev BS (lo : Nat) (w : World) (a : Option Addr) (n : Nat) (S : Nat → Nat) : Prop := CS lo w a n (fun i => .int .u8 (S i : Nat))
abbrev ES (lo : Nat) (w : World) (a : Option Addr) (n : Nat) (S : Nat → Nat) : Prop := CS lo w a n (fun i => .int .u16 (S i : Nat))
abbrev TS (lo : Nat) (w : World) (a : Option Addr) (n : Nat) (T : Nat → Int) : Prop := CS lo w a n (fun i => .int .i32 (T i))

theorem Try.info5 : (Try.prog.info? 5).map (fun i => (i.zero, i.size, i.bytes)) = some (some (.int .u8 0), 1, 1) := by kernel_rfl
theorem Try.info56 : (Try.prog.info? 56).map (fun i => (i.zero, i.size, i.bytes)) = some (some (.int .u16 0), 1, 2) := by kernel_rfl
theorem Try.info21 : (Try.prog.info? 21).map (fun i => (i.zero, i.size, i.bytes)) = some (some (.int .i32 0), 1, 4) := by kernel_rfl

/-- What a clone of bytes is: nil, or a row of its own. -/
def OwnRow (lo : Nat) (w : World) (a : Option Addr) (t : TypeId) (n : Nat) (f : Nat → Value) : Prop :=
  (n = 0 ∧ a = none) ∨ ∃ b, a = some ⟨b, 0, none⟩ ∧ lo ≤ b ∧ w.rowIs b t n f
theorem OwnRow.cs {lo : Nat} {w : World} {a : Option Addr} {t : TypeId} {n : Nat} {f : Nat → Value} (h : OwnRow lo w a t n f) (hn : n ≤ 9223372036854775807) : CS lo w a n f := by
  rcases h with ⟨rfl, rfl⟩ | ⟨b, rfl, hl, hr⟩
  · exact ⟨hn, .inl rfl⟩
  · exact CS.row hr hl hn
def Cloned (w : World) (t : TypeId) (n : Nat) (f : Nat → Value) (e : Ending) (w' : World) : Prop := ∃ a', e = .returned (.slice a' n n) ∧ OwnRow w.heap.size w' a' t n f ∧ Below w.heap.size w w'

set_option maxHeartbeats 400000 in
theorem clone16_nil (n c : Nat) (w : World) : Calls Try.prog 16 #[.slice none n c] w fun e w' => e = .returned (.slice none 0 0) ∧ w' = w := by
  have hnil := fun (w : World) (a : Option Addr) (n c : Nat) => Lib.run_eql_slice_nil (P := Try.prog) w 30 5 a n c 0 0 Try.underlying30
  go_enter Try.func16, Try.ntmps16
  go_wp2
  go_ret
  exact ⟨rfl, rfl⟩
set_option maxHeartbeats 400000 in
theorem clone16_some (a : Addr) (n c : Nat) (S : Nat → Int) (w : World) (hn : n ≤ 1048576) (h : CS 0 w (some a) n (fun i => .int .u8 (S i))) : Calls Try.prog 16 #[.slice (some a) n c] w (Cloned w 5 n (fun i => .int .u8 (S i))) := by
  have hnil := fun (w : World) (a : Option Addr) (n c : Nat) => Lib.run_eql_slice_nil (P := Try.prog) w 30 5 a n c 0 0 Try.underlying30
  have hmk := fun w => run_make_row' (P := Try.prog) 30 5 (.int .u8 0) 1 Try.underlying30 Try.info5 rfl .i64 .i64 n (by omega) (by omega) w
  go_enter Try.func16, Try.ntmps16
  go_wp2
  go_loopg [4] n (fun g i wr => ∃ (k : Nat) (f : Nat → Value), k + g = n ∧ i = .int .i64 k ∧ wr.rowIs w.heap.size 5 n f ∧ (∀ j, j < k → f j = .int .u8 (S j)) ∧ Below w.heap.size w wr)
  case atStart => exact ⟨0, _, by omega, rfl, World.rowIs_made _ _ _ _, fun j hj => by omega, (Below.refl _ _).alloc (Nat.le_refl _) _⟩
  case round =>
    obtain ⟨k, f, hk, rfl, hrow, hf, hbel⟩ := hrel
    by_cases hlt : k < n
    · obtain ⟨b, o, he, _, hc⟩ := (h.keeps (Keeps.below hbel)).at hlt
      cases he
      obtain ⟨s, hs⟩ : ∃ s, s = S k := ⟨_, rfl⟩
      rw [← hs] at hc
      have HS : Hid (s = S k) := hs
      have HK : Hid (k + gk = n) := hk
      have HF : Hid (∀ j, j < k → f j = .int .u8 (S j)) := hf
      have g1 := hrow.cell hlt
      have g2 := hrow.frozen k
      clear h hk hs hf
      go_wp2
      have hk := HK.out
      go_roundg (gk - 1)
      case rel =>
        refine ⟨k + 1, _, by omega, by go_num, hrow.set k _, fun j hj => ?_, hbel.setCell (Nat.le_refl _) _⟩
        rcases Nat.lt_succ_iff_lt_or_eq.1 hj with h | rfl
        · rw [if_neg (by omega)]; exact HF.out j h
        · rw [if_pos rfl, HS.out]
      case measure => omega
    · have hkn : k = n := by omega
      subst hkn
      go_wp2
      go_ret
      exact ⟨_, rfl, .inr ⟨_, rfl, Nat.le_refl _, hrow.congr hf⟩, hbel⟩
theorem clone16 {a : Option Addr} {n c : Nat} {S : Nat → Int} {w : World} (hn : n ≤ 1048576) (h : CS 0 w a n (fun i => .int .u8 (S i))) : Calls Try.prog 16 #[.slice a n c] w (Cloned w 5 n (fun i => .int .u8 (S i))) := by
  cases a with
  | some a => exact clone16_some a n c S w hn h
  | none =>
    refine (clone16_nil n c w).mono ?_
    rintro e w' ⟨rfl, rfl⟩
    obtain rfl : n = 0 := by rcases h.2 with h | ⟨b, o, e, _⟩; exact h; cases e
    exact ⟨none, rfl, .inl ⟨rfl, rfl⟩, Below.refl _ _⟩

set_option maxHeartbeats 400000 in
theorem clone17_nil (n c : Nat) (w : World) : Calls Try.prog 17 #[.slice none n c] w fun e w' => e = .returned (.slice none 0 0) ∧ w' = w := by
  have hnil := fun (w : World) (a : Option Addr) (n c : Nat) => Lib.run_eql_slice_nil (P := Try.prog) w 31 56 a n c 0 0 Try.underlying31
  go_enter Try.func17, Try.ntmps17
  go_wp2
  go_ret
  exact ⟨rfl, rfl⟩
set_option maxHeartbeats 400000 in
theorem clone17_some (a : Addr) (n c : Nat) (S : Nat → Int) (w : World) (hn : n ≤ 1048576) (h : CS 0 w (some a) n (fun i => .int .u16 (S i))) : Calls Try.prog 17 #[.slice (some a) n c] w (Cloned w 56 n (fun i => .int .u16 (S i))) := by
  have hnil := fun (w : World) (a : Option Addr) (n c : Nat) => Lib.run_eql_slice_nil (P := Try.prog) w 31 56 a n c 0 0 Try.underlying31
  have hmk := fun w => run_make_row' (P := Try.prog) 31 56 (.int .u16 0) 2 Try.underlying31 Try.info56 rfl .i64 .i64 n (by omega) (by omega) w
  go_enter Try.func17, Try.ntmps17
  go_wp2
  go_loopg [4] n (fun g i wr => ∃ (k : Nat) (f : Nat → Value), k + g = n ∧ i = .int .i64 k ∧ wr.rowIs w.heap.size 56 n f ∧ (∀ j, j < k → f j = .int .u16 (S j)) ∧ Below w.heap.size w wr)
  case atStart => exact ⟨0, _, by omega, rfl, World.rowIs_made _ _ _ _, fun j hj => by omega, (Below.refl _ _).alloc (Nat.le_refl _) _⟩
  case round =>
    obtain ⟨k, f, hk, rfl, hrow, hf, hbel⟩ := hrel
    by_cases hlt : k < n
    · obtain ⟨b, o, he, _, hc⟩ := (h.keeps (Keeps.below hbel)).at hlt
      cases he
      obtain ⟨s, hs⟩ : ∃ s, s = S k := ⟨_, rfl⟩
      rw [← hs] at hc
      have HS : Hid (s = S k) := hs
      have HK : Hid (k + gk = n) := hk
      have HF : Hid (∀ j, j < k → f j = .int .u16 (S j)) := hf
      have g1 := hrow.cell hlt
      have g2 := hrow.frozen k
      clear h hk hs hf
      go_wp2
      have hk := HK.out
      go_roundg (gk - 1)
      case rel =>
        refine ⟨k + 1, _, by omega, by go_num, hrow.set k _, fun j hj => ?_, hbel.setCell (Nat.le_refl _) _⟩
        rcases Nat.lt_succ_iff_lt_or_eq.1 hj with h | rfl
        · rw [if_neg (by omega)]; exact HF.out j h
        · rw [if_pos rfl, HS.out]
      case measure => omega
    · have hkn : k = n := by omega
      subst hkn
      go_wp2
      go_ret
      exact ⟨_, rfl, .inr ⟨_, rfl, Nat.le_refl _, hrow.congr hf⟩, hbel⟩
theorem clone17 {a : Option Addr} {n c : Nat} {S : Nat → Int} {w : World} (hn : n ≤ 1048576) (h : CS 0 w a n (fun i => .int .u16 (S i))) : Calls Try.prog 17 #[.slice a n c] w (Cloned w 56 n (fun i => .int .u16 (S i))) := by
  cases a with
  | some a => exact clone17_some a n c S w hn h
  | none =>
    refine (clone17_nil n c w).mono ?_
    rintro e w' ⟨rfl, rfl⟩
    obtain rfl : n = 0 := by rcases h.2 with h | ⟨b, o, e, _⟩; exact h; cases e
    exact ⟨none, rfl, .inl ⟨rfl, rfl⟩, Below.refl _ _⟩

set_option maxHeartbeats 400000 in
theorem clone18_nil (n c : Nat) (w : World) : Calls Try.prog 18 #[.slice none n c] w fun e w' => e = .returned (.slice none 0 0) ∧ w' = w := by
  have hnil := fun (w : World) (a : Option Addr) (n c : Nat) => Lib.run_eql_slice_nil (P := Try.prog) w 32 21 a n c 0 0 Try.underlying32
  go_enter Try.func18, Try.ntmps18
  go_wp2
  go_ret
  exact ⟨rfl, rfl⟩
set_option maxHeartbeats 400000 in
theorem clone18_some (a : Addr) (n c : Nat) (S : Nat → Int) (w : World) (hn : n ≤ 1048576) (h : CS 0 w (some a) n (fun i => .int .i32 (S i))) : Calls Try.prog 18 #[.slice (some a) n c] w (Cloned w 21 n (fun i => .int .i32 (S i))) := by
  have hnil := fun (w : World) (a : Option Addr) (n c : Nat) => Lib.run_eql_slice_nil (P := Try.prog) w 32 21 a n c 0 0 Try.underlying32
  have hmk := fun w => run_make_row' (P := Try.prog) 32 21 (.int .i32 0) 4 Try.underlying32 Try.info21 rfl .i64 .i64 n (by omega) (by omega) w
  go_enter Try.func18, Try.ntmps18
  go_wp2
  go_loopg [4] n (fun g i wr => ∃ (k : Nat) (f : Nat → Value), k + g = n ∧ i = .int .i64 k ∧ wr.rowIs w.heap.size 21 n f ∧ (∀ j, j < k → f j = .int .i32 (S j)) ∧ Below w.heap.size w wr)
  case atStart => exact ⟨0, _, by omega, rfl, World.rowIs_made _ _ _ _, fun j hj => by omega, (Below.refl _ _).alloc (Nat.le_refl _) _⟩
  case round =>
    obtain ⟨k, f, hk, rfl, hrow, hf, hbel⟩ := hrel
    by_cases hlt : k < n
    · obtain ⟨b, o, he, _, hc⟩ := (h.keeps (Keeps.below hbel)).at hlt
      cases he
      obtain ⟨s, hs⟩ : ∃ s, s = S k := ⟨_, rfl⟩
      rw [← hs] at hc
      have HS : Hid (s = S k) := hs
      have HK : Hid (k + gk = n) := hk
      have HF : Hid (∀ j, j < k → f j = .int .i32 (S j)) := hf
      have g1 := hrow.cell hlt
      have g2 := hrow.frozen k
      clear h hk hs hf
      go_wp2
      have hk := HK.out
      go_roundg (gk - 1)
      case rel =>
        refine ⟨k + 1, _, by omega, by go_num, hrow.set k _, fun j hj => ?_, hbel.setCell (Nat.le_refl _) _⟩
        rcases Nat.lt_succ_iff_lt_or_eq.1 hj with h | rfl
        · rw [if_neg (by omega)]; exact HF.out j h
        · rw [if_pos rfl, HS.out]
      case measure => omega
    · have hkn : k = n := by omega
      subst hkn
      go_wp2
      go_ret
      exact ⟨_, rfl, .inr ⟨_, rfl, Nat.le_refl _, hrow.congr hf⟩, hbel⟩
theorem clone18 {a : Option Addr} {n c : Nat} {S : Nat → Int} {w : World} (hn : n ≤ 1048576) (h : CS 0 w a n (fun i => .int .i32 (S i))) : Calls Try.prog 18 #[.slice a n c] w (Cloned w 21 n (fun i => .int .i32 (S i))) := by
  cases a with
  | some a => exact clone18_some a n c S w hn h
  | none =>
    refine (clone18_nil n c w).mono ?_
    rintro e w' ⟨rfl, rfl⟩
    obtain rfl : n = 0 := by rcases h.2 with h | ⟨b, o, e, _⟩; exact h; cases e
    exact ⟨none, rfl, .inl ⟨rfl, rfl⟩, Below.refl _ _⟩

/-- Every selector is below six. -/
def SelSays (w : World) (n : Nat) (S : Nat → Nat) (e : Ending) (w' : World) : Prop := w' = w ∧ ∃ b, e = .returned (.bool b) ∧ (b = true → ∀ i, i < n → S i < 6)

set_option maxHeartbeats 400000 in
theorem selBelow_walk (a : Option Addr) (n c : Nat) (S : Nat → Nat) (w : World) (h : BS 0 w a n S) : Calls Try.prog 15 #[.slice a n c] w (SelSays w n S) := by
  have hn := h.1
  go_enter Try.func15, Try.ntmps15
  go_wp2
  go_loopg [3] n (fun g i wr => ∃ (k : Nat), k + g = n ∧ i = .int .i64 k ∧ (∀ j, j < k → S j < 6) ∧ wr = w)
  case atStart => exact ⟨0, by omega, rfl, fun j hj => by omega, rfl⟩
  case round =>
    obtain ⟨k, hk, rfl, hf, rfl⟩ := hrel
    by_cases hlt : k < n
    · obtain ⟨b, o, he, _, hc⟩ := h.at hlt
      subst he
      have hlt' : (k : Int) < n := by omega
      have HK : Hid (k + gk = n) := hk
      have HF : Hid (∀ j, j < k → S j < 6) := hf
      clear h hk hf
      by_cases h6 : S k < 6
      · have h6' : ¬ (6 : Int) ≤ (S k : Nat) := by omega
        go_wp2_with fail
        have hk := HK.out
        go_roundg (gk - 1)
        case rel =>
          refine ⟨k + 1, by omega, by go_num, fun j hj => ?_, rfl⟩
          rcases Nat.lt_succ_iff_lt_or_eq.1 hj with h | rfl
          · exact HF.out j h
          · exact h6
        case measure => omega
      · have h6' : (6 : Int) ≤ (S k : Nat) := by omega
        go_wp2_with fail
        go_ret
        exact ⟨rfl, _, rfl, fun h => by cases h⟩
    · have hkn : k = n := by omega
      subst hkn
      go_wp2_with fail
      go_ret
      exact ⟨rfl, _, rfl, fun _ => hf⟩
end Go.Proofs.Qxb6601576a
