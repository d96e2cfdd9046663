import Derived.Test.Qxb6601109aLeaf
namespace Go.Proofs.Qxb6601109a
open Go.RowKit

theorem BS.below {w w' : World} {a : Option Addr} {xs : List UInt8} (h : BS w a xs) (hb : Below w.heap.size w w') : BS w' a xs := by
  refine ⟨h.1, ?_⟩
  rcases h.2 with h | ⟨b, o, he, hc⟩
  · exact .inl h
  · exact .inr ⟨b, o, he, fun i hi => (hb.cell (p := ⟨b, o + i, none⟩) (World.block_lt_of_cell? _ _ (hc i hi))).trans (hc i hi)⟩
theorem Elt.below {w w' : World} {v : Value} {xs : List UInt8} (h : Elt w v xs) (hb : Below w.heap.size w w') : Elt w' v xs := by
  obtain ⟨a, c, hv, hs⟩ := h
  exact ⟨a, c, hv, hs.below hb⟩
theorem LS.below {w w' : World} {a : Option Addr} {ks : List (List UInt8)} (h : LS w a ks) (hb : Below w.heap.size w w') : LS w' a ks := by
  refine ⟨h.1, ?_⟩
  rcases h.2 with h | ⟨b, o, he, hc⟩
  · exact .inl h
  · refine .inr ⟨b, o, he, fun i hi => ?_⟩
    obtain ⟨v, hv, he⟩ := hc i hi
    exact ⟨v, (hb.cell (p := ⟨b, o + i, none⟩) (World.block_lt_of_cell? _ _ hv)).trans hv, he.below hb⟩
/-- The i-th element of a list, in the world as it stands. -/
theorem LS.at {w : World} {a : Option Addr} {ks : List (List UInt8)} (h : LS w a ks) {i : Nat} (hi : i < ks.length) :
    ∃ b o, a = some ⟨b, o, none⟩ ∧ ∃ a' c', w.cell? ⟨b, o + i, none⟩ = some (.slice a' (ks.getD i []).length c') ∧ BS w a' (ks.getD i []) := by
  rcases h.2 with rfl | ⟨b, o, he, hc⟩
  · simp at hi
  · obtain ⟨v, hv, a', c', rfl, hs⟩ := hc i hi
    exact ⟨b, o, he, a', c', hv, hs⟩

/-- 'v' is a byte slice of the call's own (a block between 'lo' and 'hi'), or nil: it holds 'xs'. -/
def Own (w : World) (lo hi : Nat) (v : Value) (xs : List UInt8) : Prop :=
  (v = .slice none 0 0 ∧ xs = []) ∨ ∃ b, lo ≤ b ∧ b < hi ∧ v = .slice (some ⟨b, 0, none⟩) xs.length xs.length ∧ w.heap[b]? = some (.cells (xs.map bv).toArray 5 (0, 0))

theorem Own.mono {w w' : World} {lo hi lo' hi' : Nat} {v : Value} {xs : List UInt8} (h : Own w lo hi v xs) (h1 : lo' ≤ lo) (h2 : hi ≤ hi') (hk : ∀ b, lo ≤ b → b < hi → w'.heap[b]? = w.heap[b]?) : Own w' lo' hi' v xs := by
  rcases h with h | ⟨b, hb1, hb2, hv, hh⟩
  · exact .inl h
  · exact .inr ⟨b, by omega, by omega, hv, (hk b hb1 hb2).trans hh⟩

theorem Own.elt {w : World} {lo hi : Nat} {v : Value} {xs : List UInt8} (h : Own w lo hi v xs) (hm : xs.length ≤ 9223372036854775807) : Elt w v xs := by
  rcases h with ⟨rfl, rfl⟩ | ⟨b, hb1, hb2, hv, hh⟩
  · exact ⟨none, 0, rfl, by simp, .inl rfl⟩
  · refine ⟨_, _, hv, hm, .inr ⟨b, 0, rfl, fun i hi => ?_⟩⟩
    simp [World.cell?, hh, hi]

theorem Own.shape {w : World} {lo hi : Nat} {v : Value} {xs : List UInt8} (h : Own w lo hi v xs) : ∃ a c, v = .slice a xs.length c := by
  rcases h with ⟨rfl, rfl⟩ | ⟨b, hb1, hb2, hv, hh⟩
  · exact ⟨_, _, rfl⟩
  · exact ⟨_, _, hv⟩

theorem cloneBytes_own {a : Option Addr} {c : Nat} {xs : List UInt8} {w : World} (h : BS w a xs) (hm : xs.length ≤ 1048576) :
    Calls Try.prog 13 #[.slice a xs.length c] w fun e w' => ∃ a' c', e = .returned (.slice a' xs.length c') ∧ Own w' w.heap.size w'.heap.size (.slice a' xs.length c') xs ∧ Below w.heap.size w w' := by
  refine (cloneBytes_any h hm).mono ?_
  rintro e w' ⟨rfl, rfl⟩
  cases a with
  | none =>
    have hx : xs = [] := by
      rcases h.2 with h | ⟨b, o, h, _⟩
      · exact h
      · cases h
    subst hx
    exact ⟨none, 0, rfl, .inl ⟨rfl, rfl⟩, Below.refl _ _⟩
  | some a =>
    refine ⟨_, _, rfl, .inr ⟨w.heap.size, Nat.le_refl _, ?_, rfl, heap_alloc_new w _⟩, (Below.refl _ _).alloc (Nat.le_refl _) _⟩
    simp [cloneW]

theorem Try.info29 : (Try.prog.info? 29).map (fun i => (i.zero, i.size, i.bytes)) = some (some (.slice none 0 0), 1, 24) := by kernel_rfl

set_option maxHeartbeats 400000 in
theorem cloneList_nil (n c : Nat) (w : World) :
    Calls Try.prog 9 #[.slice none n c] w fun e w' => e = .returned (.slice none 0 0) ∧ w' = w := by
  have hnil := fun (w : World) (a : Option Addr) (n c : Nat) => Lib.run_eql_slice_nil (P := Try.prog) w 22 29 a n c 0 0 Try.underlying22
  go_enter Try.func9, Try.ntmps9
  go_wp2
  go_ret
  exact ⟨rfl, rfl⟩

/-- The cloned list: a row of its own at block B, its elements in blocks of their own behind it. -/
def OwnList (w : World) (B : Nat) (ks : List (List UInt8)) : Prop :=
  ∃ f : Nat → Value, w.rowIs B 29 ks.length f ∧ ∀ i, i < ks.length → Own w (B + 1) w.heap.size (f i) (ks.getD i [])

set_option maxHeartbeats 400000 in
theorem cloneList_some (a : Addr) (ks : List (List UInt8)) (c : Nat) (w : World) (hn : ks.length ≤ 4096) (hl : ∀ i, i < ks.length → (ks.getD i []).length ≤ 1048576) (h : LS w (some a) ks) :
    Calls Try.prog 9 #[.slice (some a) ks.length c] w fun e w' => e = .returned (.slice (some ⟨w.heap.size, 0, none⟩) ks.length ks.length) ∧ OwnList w' w.heap.size ks ∧ Below w.heap.size w w' := by
  have hnil := fun (w : World) (a : Option Addr) (n c : Nat) => Lib.run_eql_slice_nil (P := Try.prog) w 22 29 a n c 0 0 Try.underlying22
  have hmk := fun w => run_make_row' (P := Try.prog) 22 29 (.slice none 0 0) 24 Try.underlying22 Try.info29 rfl .i64 .i64 ks.length (by omega) (by omega) w
  obtain ⟨n, hnn⟩ : ∃ n, n = ks.length := ⟨_, rfl⟩
  obtain ⟨B, hB⟩ : ∃ B, B = w.heap.size := ⟨_, rfl⟩
  go_enter Try.func9, Try.ntmps9
  go_wp2
  go_loopg [4] ks.length (fun g i wr => ∃ (k : Nat) (f : Nat → Value), k + g = ks.length ∧ i = .int .i64 k ∧ wr.rowIs w.heap.size 29 ks.length f ∧ (∀ j, j < k → Own wr (w.heap.size + 1) wr.heap.size (f j) (ks.getD j [])) ∧ Below w.heap.size w wr)
  case atStart => exact ⟨0, _, by omega, rfl, World.rowIs_made _ _ _ _, fun j hj => by omega, (Below.refl _ _).alloc (Nat.le_refl _) _⟩
  case round =>
    obtain ⟨k, f, hk, rfl, hrow, hown, hbel⟩ := hrel
    by_cases hlt : k < ks.length
    · obtain ⟨b, o, he, a', c', hc, hs⟩ := (h.below hbel).at hlt
      cases he
      have hll := hl k hlt
      obtain ⟨xs, hxs⟩ : ∃ xs, xs = ks.getD k [] := ⟨_, rfl⟩
      rw [← hxs] at hc hs hll
      have HX : Hid (xs = ks.getD k []) := hxs
      have HK : Hid (k + gk = ks.length) := hk
      clear hxs hl h hk
      go_wp2_with (go_at_call 13; refine (cloneBytes_own hs hll).mono ?_; rintro e w1 ⟨a1, c1, rfl, ho1, hb1⟩; have hr1 : w1.rowIs w.heap.size 29 ks.length f := hrow.of_block (hb1.block _ hrow.lt); have g1 := hr1.cell hlt; have g2 := hr1.frozen k)
      have hk := HK.out
      have hxs := HX.out
      go_roundg (gk - 1)
      case rel =>
        refine ⟨k + 1, _, by omega, by go_num, hr1.set k _, ?_, ?_⟩
        · intro j hj
          have hwl := hrow.lt
          have hsz : wr.heap.size ≤ w1.heap.size := hb1.size
          have hsz2 : (w1.setCell ⟨w.heap.size, k, none⟩ (.slice a1 xs.length c1)).heap.size = w1.heap.size := by simp [World.setCell]
          rcases Nat.lt_succ_iff_lt_or_eq.1 hj with h | rfl
          · rw [if_neg (by omega), hsz2]
            exact (hown j h).mono (Nat.le_refl _) hsz (fun b h1 h2 => (Below.heap_setCell _ _ _ _ (by show b ≠ w.heap.size; omega)).trans (hb1.block b h2))
          · rw [if_pos rfl, hsz2, ← hxs]
            exact ho1.mono (by omega) (Nat.le_refl _) (fun b h1 h2 => Below.heap_setCell _ _ _ _ (by show b ≠ w.heap.size; omega))
        · exact (hbel.trans (hb1.mono (Nat.le_of_lt hrow.lt))).setCell (Nat.le_refl _) _
      case measure => omega
    · go_wp2
      go_ret
      have hkn : k = ks.length := by omega
      subst hkn
      exact ⟨rfl, ⟨f, hrow, hown⟩, hbel⟩

end Go.Proofs.Qxb6601109a
