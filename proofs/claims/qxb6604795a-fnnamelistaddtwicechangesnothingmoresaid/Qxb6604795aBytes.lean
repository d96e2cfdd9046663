import Derived.Test.Qxb6604795aLeaf
namespace Go.Proofs.Qxb6604795a
open Go.RowKit

/-- What the bound on the bytes says. -/
def BytesSay (w : World) (n1 n2 : Nat) (S : Nat → ByteArray) (R : Rows2) (e : Ending) (w' : World) : Prop :=
  w' = w ∧ ∃ z : Int, e = .returned (.int .i64 z) ∧ (z ≤ 1048576 → n1 ≤ 65536 ∧ (∀ i, i < n1 → (S i).size ≤ 1048576) ∧ ∀ i, i < n2 → R.L i ≤ 65536)

set_option maxRecDepth 100000 in
set_option maxHeartbeats 1000000 in
theorem listBytes_walk (w : World) (a1 a2 a3 : Option Addr) (c1 c2 c3 n1 n2 n3 : Nat) (kind name about : ByteArray) (S : Nat → ByteArray) (R : Rows2) (h1 : SS 0 w a1 n1 S) (h2 : LS 0 w a2 n2 R) (hk : kind.size ≤ 1048576) (hnm : name.size ≤ 1048576) (hab : about.size ≤ 1048576)
    (hn1 : n1 ≤ 1048576) (hn2 : n2 ≤ 1048576) (hn3 : n3 ≤ 1048576) (hS : ∀ i, i < n1 → (S i).size ≤ 9223372036854775807) (hX : ∀ i, i < n2 → ∀ j, j < R.L i → (R.X i j).size ≤ 9223372036854775807) :
    Calls Try.prog 19 #[.string kind, .slice a1 n1 c1, .slice a2 n2 c2, .slice a3 n3 c3, .string name, .string about] w (BytesSay w n1 n2 S R) := by
  obtain ⟨x0, hx0⟩ : ∃ x0 : Int, x0 = kind.size + name.size + about.size + 8 * n3 + 16 * n1 + 24 * n2 := ⟨_, rfl⟩
  by_cases hbig : 1048576 < (kind.size : Int) + name.size + about.size + 8 * n3 + 16 * n1 + 24 * n2
  · go_enter Try.func19, Try.ntmps19
    go_wp2_with fail
    go_ret
    exact ⟨rfl, _, rfl, fun h => by omega⟩
  have hx1 : x0 ≤ 1048576 := by omega
  have hx2 : 0 ≤ x0 := by omega
  have hn16 : n1 ≤ 65536 := by omega
  go_enter Try.func19, Try.ntmps19
  go_wp2_with fail
  go_loopg [13, 14] n1 (fun g t i wr => ∃ (k : Nat) (x : Int), k + g = n1 ∧ i = .int .i64 k ∧ t = .int .i64 x ∧ 0 ≤ x ∧ x ≤ 1048576 ∧ (∀ j, j < k → (S j).size ≤ 1048576) ∧ wr = w)
  case atStart => exact ⟨0, _, by omega, rfl, rfl, by omega, by omega, fun j hj => by omega, rfl⟩
  case round =>
    obtain ⟨k, x, hkg, rfl, rfl, hx3, hx4, hall, rfl⟩ := hrel
    clear hx0 hbig hx1 hx2
    by_cases hlt : k < n1
    · obtain ⟨b, o, rfl, _, hc⟩ := h1.at hlt
      have hlt' : (k : Int) < n1 := by omega
      have hsk := hS k hlt
      obtain ⟨s, hs⟩ : ∃ s, s = S k := ⟨_, rfl⟩
      rw [← hs] at hc hsk
      have HS : Hid (s = S k) := hs
      have HK : Hid (k + gk = n1) := hkg
      have HA : Hid (∀ j, j < k → (S j).size ≤ 1048576) := hall
      clear hs h1 h2 hS hX hkg hall
      by_cases hs1 : (1048576 : Int) < s.size
      · go_wp2_with fail
        go_ret
        exact ⟨rfl, _, rfl, fun h => by omega⟩
      have hs2 : decide ((1048576 : Int) < s.size) = false := decide_eq_false hs1
      by_cases hs3 : (1048576 : Int) < x + s.size
      · go_wp2_with fail
        go_ret
        exact ⟨rfl, _, rfl, fun h => by omega⟩
      have hs4 : decide ((1048576 : Int) < x + s.size) = false := decide_eq_false hs3
      go_wp2_with fail
      have hkg := HK.out
      go_roundg (gk - 1)
      case rel =>
        refine ⟨k + 1, _, by omega, by go_num, rfl, by omega, by omega, fun j hj => ?_, rfl⟩
        rcases Nat.lt_succ_iff_lt_or_eq.1 hj with h | rfl
        · exact HA.out j h
        · rw [← HS.out]; omega
      case measure => omega
    · have hkn : k = n1 := by omega
      subst hkn
      have hlt' : decide ((k : Int) < k) = false := decide_eq_false (by omega)
      have HA : Hid (∀ j, j < k → (S j).size ≤ 1048576) := hall
      clear hkg hall hS h1
      rename World => wo
      go_wp2_with fail
      go_loopg [13, 15, 16] n2 (fun g t i i2 wr' => ∃ (j : Nat) (x : Int), j + g = n2 ∧ i = .int .i64 j ∧ t = .int .i64 x ∧ 0 ≤ x ∧ x ≤ 1048576 ∧ (∀ i, i < j → R.L i ≤ 65536) ∧ wr' = wo)
      case atStart => exact ⟨0, _, by omega, rfl, rfl, by omega, by omega, fun j hj => by omega, rfl⟩
      case round =>
        clear hx3 hx4
        obtain ⟨j, x, hjg, rfl, rfl, hx3, hx4, hall, hw⟩ := hrel
        rw [hw]; clear hw
        by_cases hlt2 : j < n2
        · obtain ⟨b, o, rfl, _, hc⟩ := h2.1.at hlt2
          have hrow := h2.2 j hlt2
          have hXj := hX j hlt2
          have hlt2' : (j : Int) < n2 := by omega
          rw [Rows2.v] at hc
          obtain ⟨ra, hra⟩ : ∃ s, s = R.A j := ⟨_, rfl⟩
          obtain ⟨rl, hrl⟩ : ∃ s, s = R.L j := ⟨_, rfl⟩
          obtain ⟨rc, hrc⟩ : ∃ s, s = R.C j := ⟨_, rfl⟩
          rw [← hra, ← hrl, ← hrc] at hc
          rw [← hra, ← hrl] at hrow
          rw [← hrl] at hXj
          have hrl63 := hrow.1
          have HRL : Hid (rl = R.L j) := hrl
          have HJ : Hid (j + gk = n2) := hjg
          have HL : Hid (∀ i, i < j → R.L i ≤ 65536) := hall
          clear hra hrl hrc hjg hall h2 hX
          obtain ⟨g0, hg0⟩ : ∃ g0, g0 = gk := ⟨_, rfl⟩
          by_cases hs1 : (1048576 : Int) < rl
          · go_wp2_with fail
            go_ret
            exact ⟨rfl, _, rfl, fun h => by omega⟩
          have hs2 : decide ((1048576 : Int) < rl) = false := decide_eq_false hs1
          by_cases hs3 : (1048576 : Int) < x + 16 * rl
          · go_wp2_with fail
            go_ret
            exact ⟨rfl, _, rfl, fun h => by omega⟩
          have hs4 : decide ((1048576 : Int) < x + 16 * rl) = false := decide_eq_false hs3
          go_wp2_with fail
          go_loopg [13, 16] rl (fun g t i wr' => ∃ (j2 : Nat) (x2 : Int), j2 + g = rl ∧ i = .int .i64 j2 ∧ t = .int .i64 x2 ∧ 0 ≤ x2 ∧ x2 ≤ 1048576 ∧ wr' = wo)
          case atStart => exact ⟨0, _, by omega, rfl, rfl, by omega, by omega, rfl⟩
          case round =>
            obtain ⟨j2, x2, hjg2, rfl, rfl, hy3, hy4, hw⟩ := hrel
            rw [hw]; clear hw
            by_cases hlt3 : j2 < rl
            · obtain ⟨b2, o2, rfl, _, hc2⟩ := hrow.at hlt3
              have hlt3' : (j2 : Int) < rl := by omega
              have hsk := hXj j2 hlt3
              obtain ⟨s, hs⟩ : ∃ s, s = R.X j j2 := ⟨_, rfl⟩
              rw [← hs] at hc2 hsk
              have HK2 : Hid (j2 + gk = rl) := hjg2
              clear hs hrow hXj hjg2
              by_cases ht1 : (1048576 : Int) < s.size
              · go_wp2_with fail
                go_ret
                exact ⟨rfl, _, rfl, fun h => by omega⟩
              have ht2 : decide ((1048576 : Int) < s.size) = false := decide_eq_false ht1
              by_cases ht3 : (1048576 : Int) < x2 + s.size
              · go_wp2_with fail
                go_ret
                exact ⟨rfl, _, rfl, fun h => by omega⟩
              have ht4 : decide ((1048576 : Int) < x2 + s.size) = false := decide_eq_false ht3
              go_wp2_with fail
              have hjg2 := HK2.out
              go_roundg (gk - 1)
              case rel => exact ⟨j2 + 1, _, by omega, by go_num, rfl, by omega, by omega, rfl⟩
              case measure => omega
            · have hlt3' : decide ((j2 : Int) < rl) = false := decide_eq_false (by omega)
              go_wp2_with fail
              have hjg := HJ.out
              go_roundg (g0 - 1)
              case rel =>
                refine ⟨j + 1, _, by omega, by go_num, rfl, by omega, by omega, fun i hi => ?_, rfl⟩
                rcases Nat.lt_succ_iff_lt_or_eq.1 hi with h | rfl
                · exact HL.out i h
                · rw [← HRL.out]; omega
              case measure => omega
        · have hjn : j = n2 := by omega
          subst hjn
          have hlt2' : decide ((j : Int) < j) = false := decide_eq_false (by omega)
          go_wp2_with fail
          go_ret
          exact ⟨rfl, _, rfl, fun _ => ⟨hn16, HA.out, fun i hi => hall i hi⟩⟩
end Go.Proofs.Qxb6604795a
