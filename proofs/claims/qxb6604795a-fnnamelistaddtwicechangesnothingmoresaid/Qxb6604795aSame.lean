import Derived.Test.Qxb6604795aLeaf
namespace Go.Proofs.Qxb6604795a
open Go.RowKit

theorem ret_bool {a b : Bool} (h : a = b) : Ending.returned (.bool a) = .returned (.bool b) := by rw [h]
theorem ret_int {k : IntKind} {a b : Int} (h : a = b) : Ending.returned (.int k a) = .returned (.int k b) := by rw [h]

/-- The first index below n at which the name stands, from k on. -/
def FindSays (n : Nat) (S : Nat → ByteArray) (s : ByteArray) (w : World) (e : Ending) (w' : World) : Prop :=
  w' = w ∧ ((∃ k, k < n ∧ S k = s ∧ (∀ j, j < k → S j ≠ s) ∧ e = .returned (.int .i64 k)) ∨ ((∀ j, j < n → S j ≠ s) ∧ e = .returned (.int .i64 (-1))))
def HasSays (n : Nat) (S : Nat → ByteArray) (s : ByteArray) (w : World) (e : Ending) (w' : World) : Prop :=
  w' = w ∧ ((∃ k, k < n ∧ S k = s ∧ e = .returned (.bool true)) ∨ ((∀ j, j < n → S j ≠ s) ∧ e = .returned (.bool false)))

theorem beq_lists {s t : ByteArray} (h : s = t) : (s.toList == t.toList) = true := by rw [h]; exact beq_self_eq_true _
theorem beq_lists_ne {s t : ByteArray} (h : s ≠ t) : (s.toList == t.toList) = false := by
  rw [beq_eq_false_iff_ne]
  intro e
  rw [ByteArray.toList_eq, ByteArray.toList_eq] at e
  exact h (by cases s; cases t; simp at e; rw [e])

set_option maxHeartbeats 400000 in
theorem find_walk (a : Option Addr) (n c : Nat) (S : Nat → ByteArray) (s : ByteArray) (w : World) (h : SS 0 w a n S) : Calls Try.prog 26 #[.slice a n c, .string s] w (FindSays n S s w) := by
  have hn := h.1
  go_enter Try.func26, Try.ntmps26
  go_wp2
  go_loopg [5] n (fun g i wr => ∃ k : Nat, k + g = n ∧ i = .int .i64 k ∧ (∀ j, j < k → S j ≠ s) ∧ wr = w)
  case atStart => exact ⟨0, by omega, rfl, fun j hj => by omega, rfl⟩
  case round =>
    obtain ⟨k, hk, rfl, hne, rfl⟩ := hrel
    by_cases hlt : k < n
    · obtain ⟨b, o, rfl, _, hc⟩ := h.at hlt
      obtain ⟨t, ht⟩ : ∃ t, t = S k := ⟨_, rfl⟩
      rw [← ht] at hc
      have HT : Hid (t = S k) := ht
      have HK : Hid (k + gk = n) := hk
      clear h hk ht
      by_cases he : t = s
      · have hb := beq_lists he
        have HE : Hid (t = s) := he
        clear he
        go_wp2
        go_ret
        exact ⟨rfl, .inl ⟨k, hlt, HT.out.symm.trans HE.out, hne, rfl⟩⟩
      · have hb := beq_lists_ne he
        go_wp2
        have hk := HK.out
        go_roundg (gk - 1)
        case rel =>
          refine ⟨k + 1, by omega, by go_num, fun j hj => ?_, rfl⟩
          rcases Nat.lt_succ_iff_lt_or_eq.1 hj with h | rfl
          · exact hne j h
          · rw [← HT.out]; exact he
        case measure => omega
    · have hkn : k = n := by omega
      subst hkn
      go_wp2
      go_ret
      exact ⟨rfl, .inr ⟨hne, rfl⟩⟩

set_option maxHeartbeats 400000 in
theorem has_walk (a : Option Addr) (n c : Nat) (S : Nat → ByteArray) (s : ByteArray) (w : World) (h : SS 0 w a n S) : Calls Try.prog 27 #[.slice a n c, .string s] w (HasSays n S s w) := by
  have hn := h.1
  go_enter Try.func27, Try.ntmps27
  go_wp2
  go_loopg [5] n (fun g i wr => ∃ k : Nat, k + g = n ∧ i = .int .i64 k ∧ (∀ j, j < k → S j ≠ s) ∧ wr = w)
  case atStart => exact ⟨0, by omega, rfl, fun j hj => by omega, rfl⟩
  case round =>
    obtain ⟨k, hk, rfl, hne, rfl⟩ := hrel
    by_cases hlt : k < n
    · obtain ⟨b, o, rfl, _, hc⟩ := h.at hlt
      obtain ⟨t, ht⟩ : ∃ t, t = S k := ⟨_, rfl⟩
      rw [← ht] at hc
      have HT : Hid (t = S k) := ht
      have HK : Hid (k + gk = n) := hk
      clear h hk ht
      by_cases he : t = s
      · have hb := beq_lists he
        have HE : Hid (t = s) := he
        clear he
        go_wp2
        go_ret
        exact ⟨rfl, .inl ⟨k, hlt, HT.out.symm.trans HE.out, rfl⟩⟩
      · have hb := beq_lists_ne he
        go_wp2
        have hk := HK.out
        go_roundg (gk - 1)
        case rel =>
          refine ⟨k + 1, by omega, by go_num, fun j hj => ?_, rfl⟩
          rcases Nat.lt_succ_iff_lt_or_eq.1 hj with h | rfl
          · exact hne j h
          · rw [← HT.out]; exact he
        case measure => omega
    · have hkn : k = n := by omega
      subst hkn
      go_wp2
      go_ret
      exact ⟨rfl, .inr ⟨hne, rfl⟩⟩

/-- Whether two lists are the same. -/
def SameSays (p : Prop) (w : World) (e : Ending) (w' : World) : Prop := Drawn w w' ∧ ((p ∧ e = .returned (.bool true)) ∨ (¬ p ∧ e = .returned (.bool false)))

set_option maxHeartbeats 400000 in
theorem sameS_walk (a a2 : Option Addr) (n c m c2 : Nat) (S T : Nat → ByteArray) (w : World) (h : SS 0 w a n S) (h2 : SS 0 w a2 m T) :
    Calls Try.prog 28 #[.slice a n c, .slice a2 m c2] w (SameSays (n = m ∧ ∀ i, i < n → S i = T i) w) := by
  have hn := h.1
  have hm := h2.1
  by_cases hnm : n = m
  case neg =>
    have hd : ((n : Int) != (m : Int)) = true := by simp; omega
    go_enter Try.func28, Try.ntmps28
    go_wp2
    go_ret
    exact ⟨Drawn.refl _, .inr ⟨fun hh => hnm hh.1, rfl⟩⟩
  subst hnm
  have hd : ((n : Int) != (n : Int)) = false := by simp
  go_enter Try.func28, Try.ntmps28
  go_wp2
  go_loopg [5] n (fun g i wr => ∃ k : Nat, k + g = n ∧ i = .int .i64 k ∧ (∀ j, j < k → S j = T j) ∧ Drawn w wr)
  case atStart => exact ⟨0, by omega, rfl, fun j hj => by omega, Drawn.refl _⟩
  case round =>
    obtain ⟨k, hk, rfl, hne, hdr⟩ := hrel
    by_cases hlt : k < n
    · obtain ⟨b, o, rfl, _, hc⟩ := (h.keeps hdr.keeps).at hlt
      obtain ⟨b2, o2, rfl, _, hc2⟩ := (h2.keeps hdr.keeps).at hlt
      obtain ⟨s, hs⟩ : ∃ t, t = S k := ⟨_, rfl⟩
      obtain ⟨t, ht⟩ : ∃ t, t = T k := ⟨_, rfl⟩
      rw [← hs] at hc
      rw [← ht] at hc2
      have HS : Hid (s = S k) := hs
      have HT : Hid (t = T k) := ht
      have HK : Hid (k + gk = n) := hk
      have HN : Hid (∀ j, j < k → S j = T j) := hne
      have HD : Hid (Drawn w wr) := hdr
      clear h h2 hk ht hs hdr hne
      by_cases he : s = t
      · have hb := beq_lists he
        have HE : Hid (s = t) := he
        clear he
        go_wp2
        go_quiet (fail)
        go_wp2
        have hk := HK.out
        go_roundg (gk - 1)
        case rel =>
          refine ⟨k + 1, by omega, by go_num, fun j hj => ?_, HD.out.more _⟩
          rcases Nat.lt_succ_iff_lt_or_eq.1 hj with h | rfl
          · exact HN.out j h
          · rw [← HT.out, ← HS.out]; exact HE.out
        case measure => omega
      · have hb := beq_lists_ne he
        go_wp2
        go_quiet (fail)
        go_wp2
        go_ret
        exact ⟨HD.out.more _, .inr ⟨fun hh => he (by rw [HS.out, HT.out]; exact hh.2 k hlt), rfl⟩⟩
    · have hkn : k = n := by omega
      subst hkn
      go_wp2
      go_ret
      exact ⟨hdr, .inl ⟨⟨by first | rfl | trivial, hne⟩, rfl⟩⟩

set_option maxHeartbeats 400000 in
theorem sameI_walk (a a2 : Option Addr) (n c m c2 : Nat) (S T : Nat → Int) (w : World) (h : IS 0 w a n S) (h2 : IS 0 w a2 m T) :
    Calls Try.prog 30 #[.slice a n c, .slice a2 m c2] w (SameSays (n = m ∧ ∀ i, i < n → S i = T i) w) := by
  have hn := h.1
  have hm := h2.1
  by_cases hnm : n = m
  case neg =>
    have hd : ((n : Int) != (m : Int)) = true := by simp; omega
    go_enter Try.func30, Try.ntmps30
    go_wp2
    go_ret
    exact ⟨Drawn.refl _, .inr ⟨fun hh => hnm hh.1, rfl⟩⟩
  subst hnm
  have hd : ((n : Int) != (n : Int)) = false := by simp
  go_enter Try.func30, Try.ntmps30
  go_wp2
  go_loopg [5] n (fun g i wr => ∃ k : Nat, k + g = n ∧ i = .int .i64 k ∧ (∀ j, j < k → S j = T j) ∧ Drawn w wr)
  case atStart => exact ⟨0, by omega, rfl, fun j hj => by omega, Drawn.refl _⟩
  case round =>
    obtain ⟨k, hk, rfl, hne, hdr⟩ := hrel
    by_cases hlt : k < n
    · obtain ⟨b, o, rfl, _, hc⟩ := (h.keeps hdr.keeps).at hlt
      obtain ⟨b2, o2, rfl, _, hc2⟩ := (h2.keeps hdr.keeps).at hlt
      obtain ⟨s, hs⟩ : ∃ t, t = S k := ⟨_, rfl⟩
      obtain ⟨t, ht⟩ : ∃ t, t = T k := ⟨_, rfl⟩
      rw [← hs] at hc
      rw [← ht] at hc2
      have HS : Hid (s = S k) := hs
      have HT : Hid (t = T k) := ht
      have HK : Hid (k + gk = n) := hk
      have HN : Hid (∀ j, j < k → S j = T j) := hne
      have HD : Hid (Drawn w wr) := hdr
      clear h h2 hk ht hs hdr hne
      by_cases he : s = t
      · have hb : (s != t) = false := by rw [he]; simp
        have HE : Hid (s = t) := he
        clear he
        go_wp2
        go_quiet (fail)
        go_wp2
        have hk := HK.out
        go_roundg (gk - 1)
        case rel =>
          refine ⟨k + 1, by omega, by go_num, fun j hj => ?_, HD.out.more _⟩
          rcases Nat.lt_succ_iff_lt_or_eq.1 hj with h | rfl
          · exact HN.out j h
          · rw [← HT.out, ← HS.out]; exact HE.out
        case measure => omega
      · have hb : (s != t) = true := by simp [he]
        go_wp2
        go_quiet (fail)
        go_wp2
        go_ret
        exact ⟨HD.out.more _, .inr ⟨fun hh => he (by rw [HS.out, HT.out]; exact hh.2 k hlt), rfl⟩⟩
    · have hkn : k = n := by omega
      subst hkn
      go_wp2
      go_ret
      exact ⟨hdr, .inl ⟨⟨by first | rfl | trivial, hne⟩, rfl⟩⟩
end Go.Proofs.Qxb6604795a
