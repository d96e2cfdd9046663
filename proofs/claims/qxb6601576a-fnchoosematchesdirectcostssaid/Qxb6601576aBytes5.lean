import Derived.Test.Qxb6601576aFits5
namespace Go.Proofs.Qxb6601576a
open Go.RowKit

def SaysBool (w : World) (e : Ending) (w' : World) : Prop := (∃ b, e = .returned (.bool b)) ∧ Below w.heap.size w w'

set_option maxHeartbeats 1000000 in
set_option maxRecDepth 100000 in
theorem bytes_walk (w : World) (A0 A1 AF : Array Value) (m0 m1 : Int) (uf : Bool) (a2 a5 a6 a7 : Option Addr) (n2 c2 n5 c5 n6 c6 n7 c7 : Nat) (q2 : n2 ≤ 9223372036854775807) (q5 : n5 ≤ 9223372036854775807) (q6 : n6 ≤ 9223372036854775807) (q7 : n7 ≤ 9223372036854775807) :
    Calls Try.prog 13 #[.int .i64 m0, .agg A0, .slice a2 n2 c2, .int .i64 m1, .agg A1, .slice a5 n5 c5, .slice a6 n6 c6, .slice a7 n7 c7, .bool uf, .agg AF] w (SaysBool w) := by
  by_cases h0 : (1048576 : Int) < ((n2 : Nat) : Int)
  · go_enter Try.func13, Try.ntmps13
    go_wp2_with fail
    go_ret
    exact And.intro (Exists.intro _ rfl) ((((Below.refl _ _).alloc (Nat.le_refl _) _).alloc (by simp) _).alloc (by simp; omega) _)
  by_cases h1 : (1048576 : Int) < ((n5 : Nat) : Int)
  · go_enter Try.func13, Try.ntmps13
    go_wp2_with fail
    go_ret
    exact And.intro (Exists.intro _ rfl) ((((Below.refl _ _).alloc (Nat.le_refl _) _).alloc (by simp) _).alloc (by simp; omega) _)
  by_cases h2 : (1048576 : Int) < ((n2 : Nat) : Int) + n5
  · go_enter Try.func13, Try.ntmps13
    go_wp2_with fail
    go_ret
    exact And.intro (Exists.intro _ rfl) ((((Below.refl _ _).alloc (Nat.le_refl _) _).alloc (by simp) _).alloc (by simp; omega) _)
  by_cases h3 : (1048576 : Int) < ((n6 : Nat) : Int)
  · go_enter Try.func13, Try.ntmps13
    go_wp2_with fail
    go_ret
    exact And.intro (Exists.intro _ rfl) ((((Below.refl _ _).alloc (Nat.le_refl _) _).alloc (by simp) _).alloc (by simp; omega) _)
  by_cases h4 : (1048576 : Int) < ((n2 : Nat) : Int) + n5 + n6
  · go_enter Try.func13, Try.ntmps13
    go_wp2_with fail
    go_ret
    exact And.intro (Exists.intro _ rfl) ((((Below.refl _ _).alloc (Nat.le_refl _) _).alloc (by simp) _).alloc (by simp; omega) _)
  by_cases h5 : (1048576 : Int) < ((n7 : Nat) : Int)
  · go_enter Try.func13, Try.ntmps13
    go_wp2_with fail
    go_ret
    exact And.intro (Exists.intro _ rfl) ((((Below.refl _ _).alloc (Nat.le_refl _) _).alloc (by simp) _).alloc (by simp; omega) _)
  by_cases h6 : (1048576 : Int) < ((n2 : Nat) : Int) + n5 + n6 + n7
  · go_enter Try.func13, Try.ntmps13
    go_wp2_with fail
    go_ret
    exact And.intro (Exists.intro _ rfl) ((((Below.refl _ _).alloc (Nat.le_refl _) _).alloc (by simp) _).alloc (by simp; omega) _)
  go_enter Try.func13, Try.ntmps13
  go_wp2_with fail
  go_ret
  exact And.intro (Exists.intro _ rfl) ((((Below.refl _ _).alloc (Nat.le_refl _) _).alloc (by simp) _).alloc (by simp; omega) _)
end Go.Proofs.Qxb6601576a
