import Derived.Test.Qxb6601109aClone
import Derived.Laws.BytesArg
namespace Go.Proofs.Qxb6601109a
open Go.RowKit

/-- The string of these bytes. -/
def str (xs : List UInt8) : ByteArray := ⟨xs.toArray⟩
theorem str_toList (xs : List UInt8) : (str xs).toList = xs := ByteArray.toList_mk xs
theorem str_inj {xs ys : List UInt8} : str xs = str ys ↔ xs = ys :=
  ⟨fun h => by have := congrArg ByteArray.toList h; rwa [str_toList, str_toList] at this, fun h => by rw [h]⟩
theorem str_beq (xs ys : List UInt8) : ((str xs).toList == (str ys).toList) = decide (xs = ys) := by
  rw [str_toList, str_toList]
  by_cases h : xs = ys <;> simp [h]

theorem run_str {w : World} {a : Option Addr} {xs : List UInt8} (h : BS w a xs) (c : Nat) : (convert 29 9 (.slice a xs.length c)).run Try.prog w = .ok (.string (str xs)) w := by
  rcases h.2 with rfl | ⟨b, o, rfl, hc⟩
  · rw [show ([] : List UInt8).length = 0 from rfl, run_convert_bytes_string w 29 9 5 _ 0 c Try.underlying29 Try.underlying5 Try.underlying9]
    cases a <;> simp [Conv.bytesToString, loadCells]
    all_goals rfl
  · have := run_convert_bytes_arg (P := Try.prog) w 29 5 Try.underlying29 Try.underlying5 b o xs.length c (xs.map fun x => (x.toNat : Int)) (by simp) (fun i hi => by
      rw [hc i hi]
      simp [bv, List.getD, List.getElem?_eq_getElem hi]) 9 Try.underlying9
    rw [this]
    congr 2
    unfold strOfNums str
    rw [List.map_map]
    congr 2
    conv => rhs; rw [← List.map_id xs]
    apply List.map_congr_left
    intro x _
    simp

theorem mem_getD {α : Type} {ks : List α} {x d : α} : x ∈ ks ↔ ∃ j, j < ks.length ∧ ks.getD j d = x := by
  constructor
  · intro h
    obtain ⟨j, hj, e⟩ := List.getElem_of_mem h
    exact ⟨j, hj, by simp [List.getD, List.getElem?_eq_getElem hj, e]⟩
  · rintro ⟨j, hj, e⟩
    rw [List.getD, List.getElem?_eq_getElem hj, Option.getD_some] at e
    exact e ▸ List.getElem_mem hj

theorem eq24 {k key : List UInt8} {a ak : Option Addr} {c ck : Nat} {p : Addr} {w : World} (h : BS w a k) (hk : BS w ak key) (hp : w.cell? p = some (.slice ak key.length ck)) :
    Calls Try.prog 24 #[.slice a k.length c, .pointer (some p)] w fun e w' => e = .returned (.bool (decide (k = key))) ∧ w' = w := by
  have e1 := run_str h c
  have e2 := run_str hk ck
  go_enter Try.func24, Try.ntmps24
  go_wp2
  go_ret
  exact ⟨ret_bool (str_beq k key), rfl⟩

set_option maxHeartbeats 400000 in
theorem index_walk (ks : List (List UInt8)) (key : List UInt8) (a ak : Option Addr) (c ck : Nat) (p : Addr) (w : World) (h : LS w a ks) (hk : BS w ak key) (hp : w.cell? p = some (.slice ak key.length ck)) :
    Calls Try.prog 26 #[.slice a ks.length c, .func (.func 24) #[] #[.pointer (some p)]] w fun e w' => ∃ r : Int, e = .returned (.int .i64 r) ∧ w' = w ∧ (0 ≤ r ↔ key ∈ ks) := by
  have hm := h.1
  go_enter Try.func26, Try.ntmps26
  go_wp2
  go_loopg [8] ks.length (fun g i wr => ∃ k : Nat, k + g = ks.length ∧ i = .int .i64 k ∧ (∀ j, j < k → ks.getD j [] ≠ key) ∧ wr = w)
  case atStart => exact ⟨0, by omega, rfl, fun j hj => by omega, rfl⟩
  case round =>
    obtain ⟨k, hk', rfl, hall, rfl⟩ := hrel
    by_cases hlt : k < ks.length
    · obtain ⟨b, o, rfl, a', c', hc, hs⟩ := h.at hlt
      obtain ⟨xs, hxs⟩ : ∃ xs, xs = ks.getD k [] := ⟨_, rfl⟩
      rw [← hxs] at hc hs
      have HX : Hid (xs = ks.getD k []) := hxs
      have HA : Hid (∀ j, j < k → ks.getD j [] ≠ key) := hall
      have HK : Hid (k + gk = ks.length) := hk'
      clear hxs h hall hk'
      by_cases hq : xs = key
      · have hd : decide (xs = key) = true := by simp [hq]
        have HQ : Hid (xs = key) := hq
        clear hq
        go_wp2_with (go_at_call 24; refine (eq24 hs hk hp).mono ?_; rintro e w1 ⟨rfl, rfl⟩)
        go_ret
        exact ⟨_, rfl, rfl, fun _ => mem_getD.2 ⟨k, hlt, by rw [← HX.out, HQ.out]⟩, fun _ => by omega⟩
      · have hd : decide (xs = key) = false := by simp [hq]
        have HQ : Hid (¬ xs = key) := hq
        clear hq
        go_wp2_with (go_at_call 24; refine (eq24 hs hk hp).mono ?_; rintro e w1 ⟨rfl, rfl⟩)
        have hk' := HK.out
        go_roundg (gk - 1)
        case rel =>
          refine ⟨k + 1, by omega, by go_num, ?_, rfl⟩
          intro j hj
          rcases Nat.lt_succ_iff_lt_or_eq.1 hj with h | rfl
          · exact HA.out j h
          · rw [← HX.out]; exact HQ.out
        case measure => omega
    · go_wp2
      go_ret
      have hkn : k = ks.length := by omega
      subst hkn
      refine ⟨_, rfl, rfl, fun h => absurd h (by decide), fun h => ?_⟩
      obtain ⟨j, hj, e⟩ := mem_getD.1 h
      exact absurd e (hall j hj)


theorem contains_walk (ks : List (List UInt8)) (key : List UInt8) (a ak : Option Addr) (c ck : Nat) (p : Addr) (w : World) (h : LS w a ks) (hk : BS w ak key) (hp : w.cell? p = some (.slice ak key.length ck)) :
    Calls Try.prog 23 #[.slice a ks.length c, .func (.func 24) #[] #[.pointer (some p)]] w fun e w' => e = .returned (.bool (decide (key ∈ ks))) ∧ w' = w := by
  go_enter Try.func23, Try.ntmps23
  go_wp2_with (go_at_call 26; refine (index_walk ks key a ak c ck p w h hk hp).mono ?_; rintro e w1 ⟨r, rfl, rfl, hr⟩)
  go_ret
  exact ⟨ret_bool (by first | rfl | (rw [decide_eq_decide]; exact hr)), rfl⟩

end Go.Proofs.Qxb6601109a
