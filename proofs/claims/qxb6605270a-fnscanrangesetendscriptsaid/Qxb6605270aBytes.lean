import Derived.Test.Qxb6605270aEnds
namespace Go.Proofs.Qxb6605270a
open Go.RowKit

/-! ### The plain law: the last call that named a side decides it -/
def play (cs : List (ByteArray × Value)) (r : Rng) : Rng := cs.foldl (fun r c => r.set c.1 c.2) r
/-- The last call that names side n: its key, and whether exclusive. -/
def lastOf (n : Int) : List (ByteArray × Value) → Option (Value × Bool)
  | [] => none
  | c :: cs => match lastOf n cs with
    | some x => some x
    | none => if (sd c.1).1 = n then some (c.2, (sd c.1).2) else none
def pickV (o : Option (Value × Bool)) (v : Value) : Value := match o with | some x => x.1 | none => v
def pickB (o : Option (Value × Bool)) (b : Bool) : Bool := match o with | some x => x.2 | none => b

theorem play_eq : ∀ (cs : List (ByteArray × Value)) (r : Rng), play cs r = ⟨pickV (lastOf 1 cs) r.s, pickV (lastOf 2 cs) r.e, pickB (lastOf 1 cs) r.xs, pickB (lastOf 2 cs) r.xe⟩
  | [], r => rfl
  | c :: cs, r => by
    have ih := play_eq cs (r.set c.1 c.2)
    show play cs (r.set c.1 c.2) = _
    rw [ih]
    simp only [lastOf, Rng.set]
    cases h1 : lastOf 1 cs <;> cases h2 : lastOf 2 cs <;> by_cases e1 : (sd c.1).1 = 1 <;> by_cases e2 : (sd c.1).1 = 2 <;> simp [pickV, pickB, e1, e2]
    all_goals omega

/-! ### The arguments -/
/-- Element i of a []SetEndCall behind the address: its two cells; no text longer than M. -/
def CallAt (w : World) (a : Option Addr) (M : Nat) (i : Nat) : Prop :=
  ∃ b o, a = some ⟨b, o, none⟩ ∧ ∃ (nm : ByteArray) (k : Option Addr) (xs : List UInt8) (c : Nat), nm.size ≤ M ∧ xs.length ≤ M ∧
    w.cell? ⟨b, o + i * 2, none⟩ = some (.string nm) ∧ w.cell? ⟨b, o + i * 2 + 1, none⟩ = some (.slice k xs.length c) ∧ BS w k xs

/-- What the bound on the bytes says where it answers true. -/
def BytesSay (w : World) (a3 : Option Addr) (n1 n2 n3 : Nat) (e : Ending) (w' : World) : Prop :=
  ∃ b, e = .returned (.bool b) ∧ w' = w ∧ (b = true → n1 ≤ 1048576 ∧ n2 ≤ 1048576 ∧ n3 ≤ 1048576 ∧ ∀ i, i < n3 → CallAt w a3 1048576 i)

set_option maxHeartbeats 1000000 in
set_option maxRecDepth 100000 in
theorem zzBytes_walk (a1 a2 a3 : Option Addr) (n1 n2 n3 c1 c2 c3 : Nat) (x1 x2 : Bool) (w : World) (h1 : n1 ≤ 9223372036854775807) (h2 : n2 ≤ 9223372036854775807) (hn3 : n3 ≤ 9223372036854775807)
    (h3 : ∀ i, i < n3 → CallAt w a3 9223372036854775807 i) :
    Calls Try.prog 4 #[.slice a1 n1 c1, .slice a2 n2 c2, .bool x1, .bool x2, .slice a3 n3 c3] w (BytesSay w a3 n1 n2 n3) := by
  go_enter Try.func4, Try.ntmps4
  go_wp2
  · go_ret
    exact ⟨_, rfl, rfl, fun h => by cases h⟩
  · go_ret
    exact ⟨_, rfl, rfl, fun h => by cases h⟩
  · go_ret
    exact ⟨_, rfl, rfl, fun h => by cases h⟩
  · go_ret
    exact ⟨_, rfl, rfl, fun h => by cases h⟩
  · go_ret
    exact ⟨_, rfl, rfl, fun h => by cases h⟩
  have hb1 : (n1 : Int) ≤ 1048576 := by omega
  have hb2 : (n2 : Int) ≤ 1048576 := by omega
  have hb3 : (n3 : Int) ≤ 1048576 := by omega
  go_loopg [11, 12] n3 (fun g z i wr => ∃ (k : Nat) (x : Int), k + g = n3 ∧ i = .int .i64 k ∧ z = .int .i64 x ∧ 0 ≤ x ∧ x ≤ 1048576 ∧ (∀ j, j < k → CallAt w a3 1048576 j) ∧ wr = w)
  case atStart => exact ⟨0, _, by omega, rfl, rfl, by omega, by omega, fun j hj => by omega, rfl⟩
  case round =>
    obtain ⟨k, x, hk, rfl, rfl, hx0, hx1, hall, hwr⟩ := hrel
    rw [hwr]; clear hwr
    by_cases hlt : k < n3
    · obtain ⟨b, o, rfl, nm, ka, xs, c, hnm, hxl, hc1, hc2, hbs⟩ := h3 k hlt
      have HA : Hid (∀ j, j < k → CallAt w (some ⟨b, o, none⟩) 1048576 j) := hall
      clear h3 hall
      have hlt' : (k : Int) < n3 := by omega
      go_wp2
      · go_ret
        exact ⟨_, rfl, rfl, fun h => by cases h⟩
      · go_ret
        exact ⟨_, rfl, rfl, fun h => by cases h⟩
      · go_ret
        exact ⟨_, rfl, rfl, fun h => by cases h⟩
      · go_ret
        exact ⟨_, rfl, rfl, fun h => by cases h⟩
      · go_roundg (gk - 1)
        case rel =>
          refine ⟨k + 1, _, by omega, by go_num, rfl, by omega, by omega, fun j hj => ?_, rfl⟩
          rcases Nat.lt_succ_iff_lt_or_eq.1 hj with h | rfl
          · exact HA.out j h
          · exact ⟨b, o, rfl, nm, ka, xs, c, by omega, by omega, hc1, hc2, hbs⟩
        case measure => omega
    · have hkk : k = n3 := by omega
      subst hkk
      go_wp2
      go_ret
      exact ⟨_, rfl, rfl, fun _ => ⟨by omega, by omega, by omega, hall⟩⟩
end Go.Proofs.Qxb6605270a
