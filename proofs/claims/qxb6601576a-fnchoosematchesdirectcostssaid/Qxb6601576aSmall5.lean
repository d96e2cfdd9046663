import Derived.Test.Qxb6601576aLeaf5
import Derived.Test.Qxb6601576aPlain5
namespace Go.Proofs.Qxb6601576a
open Go.RowKit

theorem u16_and63 (x : Nat) (hx : x < 65536) : bits .and .u16 (x : Int) 63 = ((x % 64 : Nat) : Int) := by
  rw [show (63 : Int) = ((63 : Nat) : Int) from rfl, u16_and_nat x 63 hx (by omega), nat_mask6]
theorem u64_and65535 (x : Nat) (hx : x < 18446744073709551616) : bits .and .u64 (x : Int) 65535 = ((x % 65536 : Nat) : Int) := by
  rw [show (65535 : Int) = ((65535 : Nat) : Int) from rfl, u64_and_nat x 65535 hx (by omega)]
  congr 1
  exact Nat.and_two_pow_sub_one_eq_mod x 16
theorem u64_and7 (x : Nat) (hx : x < 18446744073709551616) : bits .and .u64 (x : Int) 7 = ((x % 8 : Nat) : Int) := by
  rw [show (7 : Int) = ((7 : Nat) : Int) from rfl, u64_and_nat x 7 hx (by omega), nat_mask3]

/-- The lengths lie behind the pointer, from offset o on. -/
def LensAt (w : World) (b o : Nat) (L : Nat → Nat → Nat) : Prop := ∀ t s, t < 6 → s < 258 → w.cell? ⟨b, o + (t * 258 + s), none⟩ = some (.int .u8 (L t s : Nat))
theorem LensAt.keeps {w w' : World} {b o : Nat} {L : Nat → Nat → Nat} (h : LensAt w b o L) (k : Keeps w w') : LensAt w' b o L := fun t s ht hs => k _ _ (h t s ht hs)

/-- What zzbCheapest answers. -/
def Cheap (w : World) (E : Nat → Nat) (n : Nat) (L : Nat → Nat → Nat) (a m : Nat) (e : Ending) (w' : World) : Prop :=
  w' = w ∧ e = .returned (.tuple #[.int .i64 (best E n L a m % 8 : Nat), .int .i64 (best E n L a m / 8 : Nat)])

set_option maxHeartbeats 1000000 in
set_option maxRecDepth 100000 in
theorem cheapest_walk (w : World) (b : Nat) (L : Nat → Nat → Nat) (n : Nat) (ea : Option Addr) (nE cE : Nat) (E : Nat → Nat) (a m : Nat) (hL : LensAt w b 0 L) (hE : ES 0 w ea nE E) (hE16 : ∀ i, i < nE → E i < 65536)
    (hn1 : 1 ≤ n) (hn6 : n ≤ 6) (ham : a + m ≤ nE) (hm : nE ≤ 16384) (hs : ∀ j, j < m → E (a + j) / 64 < 258) (hL100 : ∀ t s, t < n → s < 258 → L t s ≤ 100) (ht : tot E a m ≤ 81) :
    Calls Try.prog 20 #[.pointer (some ⟨b, 0, none⟩), .int .i64 (n : Nat), .slice ea nE cE, .int .i64 (a : Nat), .int .i64 ((a + m : Nat) : Int)] w (Cheap w E n L a m) := by
  have hcb : ∀ t, t < n → ∀ j, j ≤ m → cst E (L t) a j ≤ 8100 := fun t ht' j hj => by
    have h1 := cst_le E (L t) a 100 j (fun i hi => hL100 t _ ht' (hs i (by omega)))
    have h2 := tot_mono E a j m hj
    have h3 : tot E a j * 100 ≤ 81 * 100 := Nat.mul_le_mul_right _ (by omega)
    omega
  go_enter Try.func20, Try.ntmps20
  go_wp2_with fail
  go_loopg [12, 13, 14] n (fun g be bc i wr => ∃ (t : Nat) (x y : Int), t + g = n ∧ i = .int .i64 t ∧ be = .int .i64 x ∧ bc = .int .i64 y ∧ ((t = 0 ∧ x = -1 ∧ y = 0) ∨ ∃ u, t = u + 1 ∧ x = (mn (key (fun t => cst E (L t) a m)) u % 8 : Nat) ∧ y = (mn (key (fun t => cst E (L t) a m)) u / 8 : Nat)) ∧ wr = w)
  case atStart => exact ⟨0, _, _, by omega, rfl, rfl, rfl, .inl ⟨rfl, rfl, rfl⟩, rfl⟩
  case round =>
    obtain ⟨t, x, y, htg, rfl, rfl, rfl, hor, rfl⟩ := hrel
    have HT : Hid (t + gk = n) := htg
    have HOR : Hid ((t = 0 ∧ x = -1 ∧ y = 0) ∨ ∃ u, t = u + 1 ∧ x = (mn (key (fun t => cst E (L t) a m)) u % 8 : Nat) ∧ y = (mn (key (fun t => cst E (L t) a m)) u / 8 : Nat)) := hor
    by_cases htn : t < n
    · have htn' : (t : Int) < n := by omega
      clear htg hor
      rename World => wo
      obtain ⟨g0, hg0⟩ : ∃ g0, g0 = gk := ⟨_, rfl⟩
      have HG0 : Hid (g0 = gk) := hg0
      clear hg0
      go_wp2_with fail
      go_loopg [15, 16] m (fun g c i wr => ∃ j : Nat, j + g = m ∧ i = .int .i64 ((a + j : Nat) : Int) ∧ c = .int .i64 (cst E (L t) a j : Nat) ∧ wr = wo)
      case atStart => exact ⟨0, by omega, rfl, rfl, rfl⟩
      case round =>
        obtain ⟨j, hj, rfl, rfl, hwr⟩ := hrel
        rw [hwr]; clear hwr
        have hcj := hcb t htn j (by omega)
        have HJ : Hid (j + gk = m) := hj
        by_cases hjm : j < m
        · have hjm' : ((a + j : Nat) : Int) < ((a + m : Nat) : Int) := by omega
          have hcj1 := hcb t htn (j + 1) (by omega)
          rw [cst] at hcj1
          obtain ⟨eb, eo, hea, _, hc⟩ := hE.at (show a + j < nE by omega)
          subst hea
          have he16 := hE16 (a + j) (by omega)
          have hsj := hs j hjm
          have hand := u16_and63 (E (a + j)) he16
          have hl := hL t (E (a + j) / 64) (by omega) hsj
          rw [Nat.zero_add] at hl
          clear hj
          have hl100 := hL100 t (E (a + j) / 64) htn hsj
          have hstep : wrap64 ((cst E (L t) a j : Nat) + wrap64 (((E (a + j) : Nat) : Int) % 64 * wrap64 (L t (E (a + j) / 64) : Nat))) = (cst E (L t) a (j + 1) : Nat) := by
            rw [cst]
            have e1 : (((E (a + j) : Nat) : Int) % 64) = ((E (a + j) % 64 : Nat) : Int) := by omega
            rw [IntWalk.wrap64_in ((L t (E (a + j) / 64) : Nat) : Int) (by omega), e1, ← Int.natCast_mul]
            generalize E (a + j) % 64 * L t (E (a + j) / 64) = p at hcj1
            rw [IntWalk.wrap64_in ((p : Nat) : Int) (by omega), ← Int.natCast_add, IntWalk.wrap64_in _ (by omega)]
          have HSt : Hid (wrap64 ((cst E (L t) a j : Nat) + wrap64 (((E (a + j) : Nat) : Int) % 64 * wrap64 (L t (E (a + j) / 64) : Nat))) = (cst E (L t) a (j + 1) : Nat)) := hstep
          clear hstep hl100
          go_wp2_with fail
          have hj := HJ.out
          go_roundg (gk - 1)
          case rel => exact ⟨j + 1, by omega, by go_num, by first | rw [HSt.out] | (exact congrArg _ HSt.out), rfl⟩
          case measure => omega
        · have hjm2 : j = m := by omega
          subst hjm2
          have hjm' : decide (((a + j : Nat) : Int) < ((a + j : Nat) : Int)) = false := decide_eq_false (by omega)
          clear hj HJ hE hL hs hcb
          rcases HOR.out with ⟨ht0, hx0, hy0⟩ | ⟨u, htu, hxu, hyu⟩
          · subst ht0 hx0 hy0
            clear HOR
            go_wp2_with fail
            have hT := HT.out
            go_roundg (n - 1)
            case rel =>
              have h0 := mn_zero (fun t => cst E (L t) a j)
              exact ⟨1, _, _, by omega, by go_num, rfl, rfl, .inr ⟨0, rfl, by rw [h0.2], by rw [h0.1]⟩, rfl⟩
            case measure => have := HG0.out; omega
          · have hx0 : ¬ x < 0 := by omega
            have hx0' : decide (x < 0) = false := decide_eq_false hx0
            have HTU : Hid (t = u + 1) := htu
            have HX : Hid (x = (mn (key (fun t => cst E (L t) a j)) u % 8 : Nat)) := hxu
            have HY : Hid (y = (mn (key (fun t => cst E (L t) a j)) u / 8 : Nat)) := hyu
            clear htu hxu hyu HOR
            by_cases hcy : (cst E (L t) a j : Nat) < y
            · go_wp2_with fail
              have hT := HT.out
              go_roundg (n - (t + 1))
              case rel =>
                have h1 := HTU.out
                have h2 := HY.out
                have h0 := mn_step_lt (fun t => cst E (L t) a j) u (by omega) (by rw [← h1]; omega)
                exact ⟨t + 1, _, _, by omega, by go_num, rfl, rfl, .inr ⟨t, rfl, by rw [h1, h0.2], by rw [h1, h0.1]⟩, rfl⟩
              case measure => have := HG0.out; omega
            · have hcy' : decide (((cst E (L t) a j : Nat) : Int) < y) = false := decide_eq_false hcy
              go_wp2_with fail
              have hT := HT.out
              go_roundg (n - (t + 1))
              case rel =>
                have h1 := HTU.out
                have h2 := HY.out
                have h0 := mn_step_ge (fun t => cst E (L t) a j) u (by omega) (by rw [← h1]; omega)
                exact ⟨t + 1, _, _, by omega, by go_num, rfl, rfl, .inr ⟨t, rfl, by rw [h1, h0, HX.out], by rw [h1, h0, HY.out]⟩, rfl⟩
              case measure => have := HG0.out; omega
    · have htn2 : t = n := by omega
      subst htn2
      have htn' : decide ((t : Int) < (t : Int)) = false := decide_eq_false (by omega)
      clear htg hor
      go_wp2_with fail
      go_ret2
      refine ⟨rfl, ?_⟩
      show Ending.returned (.tuple #[.int .i64 x, .int .i64 y]) = _
      rcases HOR.out with ⟨h0, _, _⟩ | ⟨u, hu, hx, hy⟩
      · omega
      · rw [hx, hy, best, show t - 1 = u by omega]
end Go.Proofs.Qxb6601576a
