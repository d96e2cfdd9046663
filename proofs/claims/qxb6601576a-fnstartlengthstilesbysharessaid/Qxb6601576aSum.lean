import Derived.Test.Qxb6601576aLaw4
namespace Go.Proofs.Qxb6601576a
open Go.RowKit

theorem ret_int {k : IntKind} {a b : Int} (h : a = b) : Ending.returned (.int k a) = .returned (.int k b) := by rw [h]
theorem ret_bool {a b : Bool} (h : a = b) : Ending.returned (.bool a) = .returned (.bool b) := by rw [h]

set_option maxHeartbeats 400000 in
set_option maxRecDepth 100000 in
theorem sum_walk (b : Nat) (C : Nat → Int) (x y : Nat) (w : World) (hC : CountsAt w b C) (hF : Fits C) (hxy : x ≤ y) (hy : y ≤ 258) :
    Calls Try.prog 11 #[.pointer (some ⟨b, 0, none⟩), .int .i64 (x : Nat), .int .i64 (y : Nat)] w fun e w' => e = .returned (.int .i64 (ps C y - ps C x)) ∧ w' = w := by
  go_enter Try.func11, Try.ntmps11
  go_wp2
  go_loopg [7, 8] (y - x) (fun g s i wr => ∃ k : Nat, x ≤ k ∧ k + g = y ∧ i = .int .i64 k ∧ s = .int .i64 (ps C k - ps C x) ∧ wr = w)
  case atStart => exact ⟨x, Nat.le_refl _, by omega, rfl, by simp, rfl⟩
  case round =>
    obtain ⟨k, hxk, hk, rfl, rfl, hwr⟩ := hrel
    rw [hwr]
    clear hwr
    have hb := ps_bound hF k (by omega)
    have hm := ps_mono hF hxk (by omega)
    have hbx := ps_bound hF x (by omega)
    by_cases hlt : k < y
    · have hc := hC k (by omega)
      have hf := hF k (by omega)
      have hlt' : (k : Int) < y := by omega
      have hk258 : (k : Int) < 258 := by omega
      have HK : Hid (k + gk = y) := hk
      clear hk
      go_wp2
      have hk := HK.out
      go_roundg (gk - 1)
      case rel => exact ⟨k + 1, by omega, by omega, by go_num, by simp only [ps]; congr 1; omega, rfl⟩
      case measure => omega
    · have hky : k = y := by omega
      subst hky
      go_wp2
      go_ret
      exact ⟨rfl, rfl⟩

/-- Is g the greedy end from pos on? -/
def gE (C : Nat → Int) (alp : Nat) (sh : Int) (pos g : Nat) : Bool :=
  decide (pos ≤ g) && decide (g ≤ alp) && (!decide (g < alp) || decide (sh ≤ ps C g - ps C pos)) && (!decide (pos < g) || decide (ps C (g - 1) - ps C pos < sh))

set_option maxHeartbeats 400000 in
set_option maxRecDepth 100000 in
theorem greedy_walk (b : Nat) (C : Nat → Int) (pos g alp : Nat) (sh : Int) (w : World) (hC : CountsAt w b C) (hF : Fits C) (ha : alp ≤ 258) (hg : g ≤ 1000) (hp : pos ≤ 258) :
    Calls Try.prog 12 #[.pointer (some ⟨b, 0, none⟩), .int .i64 (pos : Nat), .int .i64 (g : Nat), .int .i64 (alp : Nat), .int .i64 sh] w fun e w' => e = .returned (.bool (gE C alp sh pos g)) ∧ w' = w := by
  by_cases h1 : g < pos
  · have h1' : (g : Int) < pos := by omega
    go_enter Try.func12, Try.ntmps12
    go_wp2
    go_ret
    exact ⟨ret_bool (by simp [gE]; omega), rfl⟩
  have h1' : decide ((g : Int) < pos) = false := decide_eq_false (by omega)
  by_cases h2 : alp < g
  · have h2' : (alp : Int) < g := by omega
    go_enter Try.func12, Try.ntmps12
    go_wp2
    go_ret
    exact ⟨ret_bool (by simp [gE]; omega), rfl⟩
  have h2' : ¬ (alp : Int) < g := by omega
  -- the second test
  by_cases h5 : pos < g
  · have h5' : (pos : Int) < g := by omega
    have e1 : ((g : Int) - 1) = ((g - 1 : Nat) : Int) := by omega
    by_cases h3 : g < alp
    · have h3' : (g : Int) < alp := by omega
      by_cases h4 : ps C g - ps C pos < sh
      · go_enter Try.func12, Try.ntmps12
        go_wp2_with (go_at_call 11; refine (sum_walk b C pos g _ hC hF (by omega) (by omega)).mono ?_; rintro e w1 ⟨rfl, rfl⟩)
        go_ret
        exact ⟨ret_bool (by simp [gE, h3]; omega), rfl⟩
      · go_enter Try.func12, Try.ntmps12
        go_wp2_with fail
        refine (sum_walk b C pos g _ hC hF (by omega) (by omega)).mono ?_
        rintro e w1 ⟨rfl, hw⟩
        rw [hw]; clear hw w1
        go_wp2_with fail
        refine (sum_walk b C pos (g - 1) _ hC hF (by omega) (by omega)).mono ?_
        rintro e w1 ⟨rfl, hw⟩
        rw [hw]; clear hw w1
        by_cases h6 : ps C (g - 1) - ps C pos < sh
        · have h6' : ¬ sh ≤ ps C (g - 1) - ps C pos := by omega
          go_wp2_with fail
          go_ret
          exact ⟨ret_bool (by simp [gE]; omega), rfl⟩
        · have h6' : sh ≤ ps C (g - 1) - ps C pos := by omega
          go_wp2_with fail
          go_ret
          exact ⟨ret_bool (by simp [gE]; omega), rfl⟩
    · have h3' : decide ((g : Int) < alp) = false := decide_eq_false (by omega)
      go_enter Try.func12, Try.ntmps12
      go_wp2_with fail
      refine (sum_walk b C pos (g - 1) _ hC hF (by omega) (by omega)).mono ?_
      rintro e w1 ⟨rfl, hw⟩
      rw [hw]; clear hw w1
      by_cases h6 : ps C (g - 1) - ps C pos < sh
      · have h6' : ¬ sh ≤ ps C (g - 1) - ps C pos := by omega
        go_wp2_with fail
        go_ret
        exact ⟨ret_bool (by simp [gE]; omega), rfl⟩
      · have h6' : sh ≤ ps C (g - 1) - ps C pos := by omega
        go_wp2_with fail
        go_ret
        exact ⟨ret_bool (by simp [gE]; omega), rfl⟩
  · have h5' : decide ((pos : Int) < g) = false := decide_eq_false (by omega)
    by_cases h3 : g < alp
    · have h3' : (g : Int) < alp := by omega
      go_enter Try.func12, Try.ntmps12
      go_wp2_with fail
      refine (sum_walk b C pos g _ hC hF (by omega) (by omega)).mono ?_
      rintro e w1 ⟨rfl, hw⟩
      rw [hw]; clear hw w1
      by_cases h4 : ps C g - ps C pos < sh
      · go_wp2_with fail
        go_ret
        exact ⟨ret_bool (by simp [gE, h3]; omega), rfl⟩
      · go_wp2_with fail
        go_ret
        exact ⟨ret_bool (by simp [gE]; omega), rfl⟩
    · have h3' : decide ((g : Int) < alp) = false := decide_eq_false (by omega)
      go_enter Try.func12, Try.ntmps12
      go_wp2_with fail
      go_ret
      exact ⟨ret_bool (by simp [gE]; omega), rfl⟩
end Go.Proofs.Qxb6601576a
