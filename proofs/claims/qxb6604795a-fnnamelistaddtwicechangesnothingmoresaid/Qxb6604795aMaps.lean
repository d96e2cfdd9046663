import Derived.Test.Qxb6604795aSame
import Derived.Maps.OwnSet
namespace Go.Proofs.Qxb6604795a
open Go.RowKit Go.Maps

/-- The rows are the same. -/
def RowEq (n : Nat) (S : Nat → ByteArray) (m : Nat) (T : Nat → ByteArray) : Prop := n = m ∧ ∀ i, i < n → S i = T i

theorem sameS_yes {a a2 : Option Addr} {n c m c2 : Nat} {S T : Nat → ByteArray} {w : World} (h : SS 0 w a n S) (h2 : SS 0 w a2 m T) (hp : RowEq n S m T) :
    Calls Try.prog 28 #[.slice a n c, .slice a2 m c2] w fun e w' => e = .returned (.bool true) ∧ ∃ q, w' = w.drewN q := by
  refine (sameS_walk a a2 n c m c2 S T w h h2).mono ?_
  rintro e w' ⟨hd, ⟨_, rfl⟩ | ⟨hn, _⟩⟩
  · exact ⟨rfl, hd⟩
  · exact absurd hp hn
theorem sameS_no {a a2 : Option Addr} {n c m c2 : Nat} {S T : Nat → ByteArray} {w : World} (h : SS 0 w a n S) (h2 : SS 0 w a2 m T) (hp : ¬ RowEq n S m T) :
    Calls Try.prog 28 #[.slice a n c, .slice a2 m c2] w fun e w' => e = .returned (.bool false) ∧ ∃ q, w' = w.drewN q := by
  refine (sameS_walk a a2 n c m c2 S T w h h2).mono ?_
  rintro e w' ⟨hd, ⟨hn, _⟩ | ⟨_, rfl⟩⟩
  · exact absurd hn hp
  · exact ⟨rfl, hd⟩

def RowsEq (n : Nat) (R : Rows2) (m : Nat) (Q : Rows2) : Prop := n = m ∧ ∀ i, i < n → RowEq (R.L i) (R.X i) (Q.L i) (Q.X i)

set_option maxHeartbeats 400000 in
theorem sameL_walk (a a2 : Option Addr) (n c m c2 : Nat) (R Q : Rows2) (w : World) (h : LS 0 w a n R) (h2 : LS 0 w a2 m Q) :
    Calls Try.prog 29 #[.slice a n c, .slice a2 m c2] w (SameSays (RowsEq n R m Q) w) := by
  have hn := h.1.1
  have hm := h2.1.1
  by_cases hnm : n = m
  case neg =>
    have hd : ((n : Int) != (m : Int)) = true := by simp; omega
    go_enter Try.func29, Try.ntmps29
    go_wp2
    go_ret
    exact ⟨Drawn.refl _, .inr ⟨fun hh => hnm hh.1, rfl⟩⟩
  subst hnm
  have hd : ((n : Int) != (n : Int)) = false := by simp
  go_enter Try.func29, Try.ntmps29
  go_wp2
  go_loopg [5] n (fun g i wr => ∃ k : Nat, k + g = n ∧ i = .int .i64 k ∧ (∀ j, j < k → RowEq (R.L j) (R.X j) (Q.L j) (Q.X j)) ∧ Drawn w wr)
  case atStart => exact ⟨0, by omega, rfl, fun j hj => by omega, Drawn.refl _⟩
  case round =>
    obtain ⟨k, hk, rfl, hne, hdr⟩ := hrel
    by_cases hlt : k < n
    · obtain ⟨b, o, rfl, _, hc⟩ := (h.keeps hdr.keeps).1.at hlt
      obtain ⟨b2, o2, rfl, _, hc2⟩ := (h2.keeps hdr.keeps).1.at hlt
      have hs := (h.keeps hdr.keeps).2 k hlt
      have hs2 := (h2.keeps hdr.keeps).2 k hlt
      rw [Rows2.v] at hc hc2
      have HK : Hid (k + gk = n) := hk
      have HN : Hid (∀ j, j < k → RowEq (R.L j) (R.X j) (Q.L j) (Q.X j)) := hne
      have HD : Hid (Drawn w wr) := hdr
      clear h h2 hk hdr hne
      by_cases he : RowEq (R.L k) (R.X k) (Q.L k) (Q.X k)
      · have HE : Hid (RowEq (R.L k) (R.X k) (Q.L k) (Q.X k)) := he
        clear he
        go_wp2_with fail
        go_quiet ((go_at_call 28; refine Calls.quiet_of (sameS_yes (S := R.X k) (T := Q.X k) ?_ ?_ ?_); exact hs; exact hs2; exact HE.out))
        go_wp2_with fail
        have hk := HK.out
        go_roundg (gk - 1)
        case rel =>
          refine ⟨k + 1, by omega, by go_num, fun j hj => ?_, HD.out.more _⟩
          rcases Nat.lt_succ_iff_lt_or_eq.1 hj with h | rfl
          · exact HN.out j h
          · exact HE.out
        case measure => omega
      · have HE : Hid (¬ RowEq (R.L k) (R.X k) (Q.L k) (Q.X k)) := he
        clear he
        go_wp2_with fail
        go_quiet ((go_at_call 28; refine Calls.quiet_of (sameS_no (S := R.X k) (T := Q.X k) ?_ ?_ ?_); exact hs; exact hs2; exact HE.out))
        go_wp2_with fail
        go_ret
        exact ⟨HD.out.more _, .inr ⟨fun hh => HE.out (hh.2 k hlt), rfl⟩⟩
    · have hkn : k = n := by omega
      subst hkn
      go_wp2
      go_ret
      exact ⟨hdr, .inl ⟨⟨by first | rfl | trivial, hne⟩, rfl⟩⟩

set_option maxHeartbeats 400000 in
theorem index_walk (a : Option Addr) (n c : Nat) (S : Nat → ByteArray) (s : ByteArray) (w : World) (h : SS 0 w a n S) :
    Calls Try.prog 51 #[.slice a n c, .string s] w fun e w' => w' = w ∧ ((∃ k : Nat, k < n ∧ S k = s ∧ e = .returned (.int .i64 k)) ∨ ((∀ j, j < n → S j ≠ s) ∧ e = .returned (.int .i64 (-1)))) := by
  have hn := h.1
  go_enter Try.func51, Try.ntmps51
  go_wp2
  go_loopg [8] n (fun g i wr => ∃ k : Nat, k + g = n ∧ i = .int .i64 k ∧ (∀ j, j < k → S j ≠ s) ∧ wr = w)
  case atStart => exact ⟨0, by omega, rfl, fun j hj => by omega, rfl⟩
  case round =>
    obtain ⟨k, hk, rfl, hne, rfl⟩ := hrel
    by_cases hlt : k < n
    · obtain ⟨b, o, rfl, _, hc⟩ := h.at hlt
      obtain ⟨t, ht⟩ : ∃ t, t = S k := ⟨_, rfl⟩
      rw [← ht] at hc
      have HT : Hid (t = S k) := ht
      have HK : Hid (k + gk = n) := hk
      have HN : Hid (∀ j, j < k → S j ≠ s) := hne
      clear h hk ht hne
      by_cases he : s = t
      · have hb := beq_lists he
        have HE : Hid (s = t) := he
        clear he
        go_wp2
        go_ret
        exact ⟨rfl, .inl ⟨k, hlt, HT.out.symm.trans HE.out.symm, rfl⟩⟩
      · have hb := beq_lists_ne he
        go_wp2
        have hk := HK.out
        go_roundg (gk - 1)
        case rel =>
          refine ⟨k + 1, by omega, by go_num, fun j hj => ?_, rfl⟩
          rcases Nat.lt_succ_iff_lt_or_eq.1 hj with h | rfl
          · exact HN.out j h
          · rw [← HT.out]; exact fun e => he e.symm
        case measure => omega
    · have hkn : k = n := by omega
      subst hkn
      go_wp2
      go_ret
      exact ⟨rfl, .inr ⟨hne, rfl⟩⟩

set_option maxHeartbeats 400000 in
theorem contains_walk (a : Option Addr) (n c : Nat) (S : Nat → ByteArray) (s : ByteArray) (w : World) (h : SS 0 w a n S) : Calls Try.prog 44 #[.slice a n c, .string s] w (HasSays n S s w) := by
  go_enter Try.func44, Try.ntmps44
  go_wp2_with fail
  refine (index_walk a n c S s w h).mono ?_
  rintro e w' ⟨hw, ⟨k, hk, hs, rfl⟩ | ⟨hn, rfl⟩⟩
  · rw [hw]; clear hw
    have hk0 : (0 : Int) ≤ k := by omega
    go_wp2_with fail
    go_ret
    exact ⟨rfl, .inl ⟨k, hk, hs, by first | rfl | simp⟩⟩
  · rw [hw]; clear hw
    go_wp2_with fail
    go_ret
    exact ⟨rfl, .inr ⟨hn, rfl⟩⟩

/-! ### the maps -/
theorem law9 : Keyed Try.prog 9 := string_keyed Try.underlying9
theorem zero3 (w : World) : (zeroValue 3).run Try.prog w = .ok (.int .i64 0) w := by kernel_rfl
theorem make37 (n : Nat) (w : World) : (Instr.makeMap 37 (some (.int .i64 (n : Int)))).run Try.prog w = .ok (.map (some w.heap.size)) (w.alloc (.map #[] 0)) := by
  simp [Instr.makeMap, run_underlying Try.underlying37]
  rfl
/-- What a key reads as. -/
def kl (s : ByteArray) : Lit := .string s.data.toList
theorem kl_ne {s t : ByteArray} (h : s ≠ t) : kl s ≠ kl t := by
  intro e
  simp only [kl, Lit.string.injEq] at e
  exact h (by cases s; cases t; simp at e; rw [e])
theorem key9 {s : ByteArray} (hs : s.size ≤ 9223372036854775807) : keyOf Try.prog 9 (.string s) = some (kl s) := WideMaps.keyOf_string_mk Try.underlying9 (by unfold maxLen; omega)

/-- Block m is a map of sz entries (at most n): it holds f. -/
def IMap (H : Type) (w : World) (m n sz : Nat) (f : ByteArray → Option Int) : Prop :=
  ∃ D : DataW H, w.ownsMap Try.prog 9 (plainElem Try.prog 3) m n D ∧ Maps.size D = sz ∧ ∀ s : ByteArray, s.size ≤ 9223372036854775807 → Maps.has D (kl s) = (f s).isSome ∧ D.atKey (kl s) (.lit (.int .i64 0)) = .lit (.int .i64 ((f s).getD 0))

theorem IMap.made (w : World) : IMap Unit (w.alloc (.map #[] 0)) w.heap.size 0 0 (fun _ => none) :=
  ⟨.map [], World.ownsMap_made _ _ _ _, rfl, fun s _ => ⟨by simp [Maps.has], by simp [DataW.atKey]⟩⟩
theorem IMap.lt {H : Type} {w : World} {m n sz : Nat} {f : ByteArray → Option Int} (h : IMap H w m n sz f) : m < w.heap.size := by
  obtain ⟨D, h, _⟩ := h
  exact h.lt
theorem IMap.kept {H : Type} {w w' : World} {m n sz : Nat} {f : ByteArray → Option Int} (h : IMap H w m n sz f) (hb : w'.heap[m]? = w.heap[m]?) : IMap H w' m n sz f := by
  obtain ⟨D, ⟨es, clock, h1, h2⟩, h3⟩ := h
  exact ⟨D, ⟨es, clock, hb.trans h1, h2⟩, h3⟩
theorem IMap.notCell {H : Type} {w : World} {m n sz : Nat} {f : ByteArray → Option Int} (h : IMap H w m n sz f) {p : Addr} {v : Value} (hp : w.cell? p = some v) : p.block ≠ m := by
  obtain ⟨D, ⟨es, clock, h1, h2⟩, h3⟩ := h
  rintro rfl
  rw [World.cell?, h1] at hp
  cases hp
theorem IMap.keeps {H : Type} {w w' : World} {m n sz : Nat} {f : ByteArray → Option Int} (h : IMap H w m n sz f) (hg : w.grownBy w' (some m)) : Keeps w w' := fun p v hp => by
  rw [World.cell?_of_block (hg.block p.block (World.block_lt_of_cell? _ _ hp) (by have := h.notCell hp; simpa using this))]
  exact hp
theorem IMap.look {H : Type} {w : World} {m n sz : Nat} {f : ByteArray → Option Int} (h : IMap H w m n sz f) {s : ByteArray} (hs : s.size ≤ 9223372036854775807) :
    (Instr.lookup 37 (.map (some m)) (.string s) true).run Try.prog w = .ok (.tuple #[.int .i64 ((f s).getD 0), .bool (f s).isSome]) w := by
  obtain ⟨D, h1, _, h3⟩ := h
  obtain ⟨v, ps, hrun, hv⟩ := h1.look_ok law9 Try.underlying37 (zero3 w) (plainElem_int Try.underlying3 (by decide)) (key9 hs)
  rw [(h3 s hs).2] at hv
  obtain ⟨c, rfl, hc, hwc⟩ := plainElem_int_inv Try.underlying3 hv
  simp only [Prod.mk.injEq, DataW.lit.injEq, Lit.int.injEq, true_and] at hc
  rw [hrun, (h3 s hs).1, hc.1]
theorem IMap.len {H : Type} {w : World} {m n sz : Nat} {f : ByteArray → Option Int} (h : IMap H w m n sz f) : (Builtin.len_ #[37] 3 #[.map (some m)]).run Try.prog w = .ok (.int .i64 sz) w := by
  obtain ⟨D, h1, h2, _⟩ := h
  rw [h1.len Try.underlying37, h2]
theorem IMap.update {H : Type} {w : World} {m n sz : Nat} {f : ByteArray → Option Int} (h : IMap H w m n sz f) (hn : n ≤ 1048576) {s : ByteArray} (hs : s.size ≤ 9223372036854775807) {k : Int} (hk : (Lit.int .i64 k).wf = true) :
    ∃ w', (Instr.mapUpdate 37 (.map (some m)) (.string s) (.int .i64 k)).run Try.prog w = .ok () w' ∧ IMap H w' m (n + 1) (if (f s).isSome then sz else sz + 1) (fun t => if t = s then some k else f t) ∧ w.grownBy w' (some m) := by
  obtain ⟨D, h1, h2, h3⟩ := h
  obtain ⟨w', hrun, ho, hg⟩ := h1.store law9 Try.underlying37 (by unfold maxLen; omega) (key9 hs) (plainElem_int Try.underlying3 hk)
  have hL : WideAt.IsKeyLit (kl s) := by first | exact trivial | simp [kl, WideAt.IsKeyLit]
  refine ⟨w', hrun, ⟨_, ho, ?_, fun t ht => ?_⟩, hg.grown⟩
  · rw [size_put (h1.tidy law9), (h3 s hs).1, h2]
  · by_cases e : t = s
    · subst e
      rw [has_put_same h1.isMap hL, atKey_put_same h1.isMap hL]
      simp
    · rw [has_put_other (kl_ne e), atKey_put_other (kl_ne e), (h3 t ht).1, (h3 t ht).2]
      simp [e]

/-- A map argument: nil, or a block. -/
def MapArg (H : Type) (w : World) (v : Value) (sz : Nat) (f : ByteArray → Option Int) : Prop :=
  (v = .map none ∧ sz = 0 ∧ f = fun _ => none) ∨ ∃ m n, v = .map (some m) ∧ IMap H w m n sz f
theorem MapArg.look {H : Type} {w : World} {v : Value} {sz : Nat} {f : ByteArray → Option Int} (h : MapArg H w v sz f) {s : ByteArray} (hs : s.size ≤ 9223372036854775807) :
    (Instr.lookup 37 v (.string s) true).run Try.prog w = .ok (.tuple #[.int .i64 ((f s).getD 0), .bool (f s).isSome]) w := by
  rcases h with ⟨rfl, _, rfl⟩ | ⟨m, n, rfl, h⟩
  · exact Maps.look_nil true law9 Try.underlying37 (zero3 w) (key9 hs)
  · exact h.look hs
theorem MapArg.len {H : Type} {w : World} {v : Value} {sz : Nat} {f : ByteArray → Option Int} (h : MapArg H w v sz f) : (Builtin.len_ #[37] 3 #[v]).run Try.prog w = .ok (.int .i64 sz) w := by
  rcases h with ⟨rfl, rfl, _⟩ | ⟨m, n, rfl, h⟩
  · exact Maps.len_nil Try.underlying37 3
  · exact h.len

/-- The map is the index of the names. -/
def Idx (n : Nat) (S : Nat → ByteArray) (sz : Nat) (f : ByteArray → Option Int) : Prop := sz = n ∧ ∀ k, k < n → f (S k) = some (k : Int)

set_option maxHeartbeats 400000 in
theorem consistent_walk {H : Type} (a : Option Addr) (n c : Nat) (S : Nat → ByteArray) (v : Value) (sz : Nat) (f : ByteArray → Option Int) (w : World) (h : SS 0 w a n S) (hS : ∀ i, i < n → (S i).size ≤ 1048576) (hz : sz ≤ 9223372036854775807) (hm : MapArg H w v sz f) :
    Calls Try.prog 20 #[.slice a n c, v] w fun e w' => w' = w ∧ ((Idx n S sz f ∧ e = .returned (.bool true)) ∨ (¬ Idx n S sz f ∧ e = .returned (.bool false))) := by
  have hn := h.1
  have hlen := hm.len
  by_cases hnm : sz = n
  case neg =>
    have hd : ((sz : Int) != (n : Int)) = true := by simp; omega
    go_enter Try.func20, Try.ntmps20
    go_wp2
    go_ret
    exact ⟨rfl, .inr ⟨fun hh => hnm hh.1, rfl⟩⟩
  subst hnm
  have hd : ((sz : Int) != (sz : Int)) = false := by simp
  go_enter Try.func20, Try.ntmps20
  go_wp2
  clear hlen
  go_loopg [5] sz (fun g i wr => ∃ k : Nat, k + g = sz ∧ i = .int .i64 k ∧ (∀ j, j < k → f (S j) = some (j : Int)) ∧ wr = w)
  case atStart => exact ⟨0, by omega, rfl, fun j hj => by omega, rfl⟩
  case round =>
    obtain ⟨k, hk, rfl, hne, rfl⟩ := hrel
    by_cases hlt : k < sz
    · obtain ⟨b, o, rfl, _, hc⟩ := h.at hlt
      have hlk := hm.look (s := S k) (by have := hS k hlt; omega)
      obtain ⟨t, ht⟩ : ∃ t, t = S k := ⟨_, rfl⟩
      rw [← ht] at hc hlk
      have HT : Hid (t = S k) := ht
      have HK : Hid (k + gk = sz) := hk
      have HN : Hid (∀ j, j < k → f (S j) = some (j : Int)) := hne
      clear h hk ht hne hS hm
      cases hf : f t with
      | none =>
        rw [hf] at hlk
        have HF : Hid (f t = none) := hf
        clear hf
        simp only [Option.getD_none, Option.isSome_none] at hlk
        go_wp2
        go_ret
        refine ⟨rfl, .inr ⟨fun hh => ?_, rfl⟩⟩
        have := hh.2 k hlt
        rw [← HT.out, HF.out] at this
        cases this
      | some z =>
        rw [hf] at hlk
        have HF : Hid (f t = some z) := hf
        clear hf
        simp only [Option.getD_some, Option.isSome_some] at hlk
        by_cases hzk : z = (k : Int)
        · subst hzk
          have hd : ((k : Int) != (k : Int)) = false := by simp
          go_wp2
          have hk := HK.out
          go_roundg (gk - 1)
          case rel =>
            refine ⟨k + 1, by omega, by go_num, fun j hj => ?_, rfl⟩
            rcases Nat.lt_succ_iff_lt_or_eq.1 hj with h | rfl
            · exact HN.out j h
            · rw [← HT.out]; exact HF.out
          case measure => omega
        · have hd : (z != (k : Int)) = true := by simp [hzk]
          go_wp2
          go_ret
          refine ⟨rfl, .inr ⟨fun hh => ?_, rfl⟩⟩
          have := hh.2 k hlt
          rw [← HT.out, HF.out] at this
          injection this with this
          exact hzk this
    · have hkn : k = sz := by omega
      subst hkn
      go_wp2
      go_ret
      exact ⟨rfl, .inl ⟨⟨by first | rfl | trivial, hne⟩, rfl⟩⟩

/-- The names are all different. -/
def Apart (n : Nat) (S : Nat → ByteArray) : Prop := ∀ i j, i < n → j < n → S i = S j → i = j
theorem Idx.apart {n : Nat} {S : Nat → ByteArray} {sz : Nat} {f : ByteArray → Option Int} (h : Idx n S sz f) : Apart n S := by
  intro i j hi hj e
  have h1 := h.2 i hi
  have h2 := h.2 j hj
  rw [e, h2] at h1
  injection h1 with h1
  omega

/-- Just the first k names are in it. -/
def Upto (k : Nat) (S : Nat → ByteArray) (sz : Nat) (f : ByteArray → Option Int) : Prop := Idx k S sz f ∧ ∀ s, (∀ j, j < k → S j ≠ s) → f s = none

theorem Upto.step {k : Nat} {S : Nat → ByteArray} {sz : Nat} {f : ByteArray → Option Int} (h : Upto k S sz f) (hne : ∀ j, j < k → S j ≠ S k) : Upto (k + 1) S (if (f (S k)).isSome then sz else sz + 1) (fun t => if t = S k then some (k : Int) else f t) := by
  have h0 := h.2 (S k) hne
  refine ⟨⟨?_, fun j hj => ?_⟩, fun s hs => ?_⟩
  · rw [h0]; simp; exact h.1.1
  · rcases Nat.lt_succ_iff_lt_or_eq.1 hj with hl | rfl
    · dsimp only; rw [if_neg (hne j hl)]; exact h.1.2 j hl
    · dsimp only; rw [if_pos rfl]
  · dsimp only
    rw [if_neg (fun e => hs k (by omega) e.symm)]
    exact h.2 s fun j hj => hs j (by omega)

set_option maxHeartbeats 400000 in
theorem indexOf_walk (a : Option Addr) (n c : Nat) (S : Nat → ByteArray) (w : World) (h : SS 0 w a n S) (hn : n ≤ 65536) (hS : ∀ i, i < n → (S i).size ≤ 1048576) (hap : Apart n S) :
    Calls Try.prog 24 #[.slice a n c] w fun e w' => e = .returned (.map (some w.heap.size)) ∧ (∃ f, Upto n S n f ∧ IMap Unit w' w.heap.size n n f) ∧ Below w.heap.size w w' := by
  have hmk := make37 n
  go_enter Try.func24, Try.ntmps24
  go_wp2
  clear hmk
  go_loopg [4] n (fun g i wr => ∃ (k : Nat) (f : ByteArray → Option Int), k + g = n ∧ i = .int .i64 k ∧ Upto k S k f ∧ IMap Unit wr w.heap.size k k f ∧ Below w.heap.size w wr)
  case atStart => exact ⟨0, _, by omega, rfl, ⟨⟨rfl, fun k hk => by omega⟩, fun _ _ => rfl⟩, IMap.made w, (Below.refl _ _).alloc (Nat.le_refl _) _⟩
  case round =>
    obtain ⟨k, f, hk, rfl, hup, him, hbel⟩ := hrel
    by_cases hlt : k < n
    · obtain ⟨b, o, rfl, _, hc⟩ := (h.keeps (Keeps.below hbel)).at hlt
      have hss := hS k hlt
      have hst := hup.step (fun j hj e => by have := hap j k (by omega) hlt e; omega)
      obtain ⟨w1, hrun, him1, hg1⟩ := him.update (by omega) (s := S k) (by omega) (k := (k : Int)) (WalkArith.wf_i64 (by omega))
      obtain ⟨t, ht⟩ : ∃ t, t = S k := ⟨_, rfl⟩
      rw [← ht] at hc hrun
      have HK : Hid (k + gk = n) := hk
      have HST : Hid (Upto (k + 1) S (if (f (S k)).isSome then k else k + 1) (fun t => if t = S k then some (k : Int) else f t)) := hst
      have HIM : Hid (IMap Unit w1 w.heap.size (k + 1) (if (f (S k)).isSome then k else k + 1) (fun t => if t = S k then some (k : Int) else f t)) := him1
      clear h hk ht hup him hS hap him1 hst
      go_wp2
      have hk := HK.out
      go_roundg (gk - 1)
      case rel =>
        have e1 : (if (f (S k)).isSome then k else k + 1) = k + 1 := HST.out.1.1
        have hst := HST.out
        have him1 := HIM.out
        rw [e1] at hst him1
        exact ⟨k + 1, _, by omega, by go_num, hst, him1, hbel.grown hg1 hbel.size (fun j hj => by cases hj; exact Nat.le_refl _)⟩
      case measure => omega
    · have hkn : k = n := by omega
      subst hkn
      go_wp2
      go_ret
      exact ⟨rfl, ⟨f, hup, him⟩, hbel⟩
end Go.Proofs.Qxb6604795a
