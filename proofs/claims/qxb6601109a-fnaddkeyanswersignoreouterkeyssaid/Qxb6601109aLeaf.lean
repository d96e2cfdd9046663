import Derived.Test.Qxb6601109aProg
import Derived.WalkKit
import Derived.WalkSpells
import Derived.Deep.QuietTactic
import Derived.BigQuiet
import Derived.Deep.LoopGhost
import Derived.Deep.OwnRows
import Derived.Laws.CopyOwn
namespace Go.Proofs.Qxb6601109a
open Go.RowKit

/-- The cell that holds a byte. -/
def bv (x : UInt8) : Value := .int .u8 (x.toNat : Int)

/-- The bytes 'xs' lie behind the address 'a' (which says nothing where there is none). -/
def BS (w : World) (a : Option Addr) (xs : List UInt8) : Prop :=
  xs.length ≤ 9223372036854775807 ∧ (xs = [] ∨ ∃ b o, a = some ⟨b, o, none⟩ ∧ ∀ i, i < xs.length → w.cell? ⟨b, o + i, none⟩ = some (bv (xs.getD i 0)))

theorem add_plain (b off i : Nat) : (⟨b, off, none⟩ : Addr).add i = ⟨b, off + i, none⟩ := by
  unfold Addr.add; split <;> simp_all
theorem drewN_two (w : World) (p q : Nat) : (w.drewN p).drewN q = w.drewN (p + q) := by
  simp [World.drewN, Nat.add_assoc]
theorem ret_bool {a b : Bool} (h : a = b) : Ending.returned (.bool a) = .returned (.bool b) := by rw [h]
theorem ret_int {k : IntKind} {a b : Int} (h : a = b) : Ending.returned (.int k a) = .returned (.int k b) := by rw [h]

theorem getD_eq_iff (xs ys : List UInt8) (h : xs.length = ys.length) : (∀ i, i < xs.length → ((xs.getD i 0).toNat : Int) = ((ys.getD i 0).toNat : Int)) ↔ xs = ys := by
  constructor
  · intro hi
    apply List.ext_getElem h
    intro i h1 h2
    have := hi i h1
    simp only [List.getD_eq_getElem?_getD, List.getElem?_eq_getElem h1, List.getElem?_eq_getElem h2, Option.getD_some] at this
    exact UInt8.toNat_inj.1 (by omega)
  · rintro rfl; intros; rfl

set_option maxHeartbeats 400000 in
theorem bytesEq_walk (b1 o1 b2 o2 n c1 c2 : Nat) (X Y : Nat → Int) (w : World) (hm : n ≤ 9223372036854775807)
    (h1 : ∀ i, i < n → w.cell? ⟨b1, o1 + i, none⟩ = some (.int .u8 (X i))) (h2 : ∀ i, i < n → w.cell? ⟨b2, o2 + i, none⟩ = some (.int .u8 (Y i))) :
    Calls Try.prog 11 #[.slice (some ⟨b1, o1, none⟩) n c1, .slice (some ⟨b2, o2, none⟩) n c2] w fun e w' => e = .returned (.bool (decide (∀ i, i < n → X i = Y i))) ∧ ∃ q, w' = w.drewN q := by
  go_enter Try.func11, Try.ntmps11
  go_wp2
  go_loopg [5] n (fun g i wr => ∃ k : Nat, k + g = n ∧ i = .int .i64 k ∧ (∀ j, j < k → X j = Y j) ∧ ∃ q, wr = w.drewN q)
  case atStart => exact ⟨0, by omega, rfl, by omega, 0, rfl⟩
  case round =>
    obtain ⟨k, hk, rfl, hall, q, rfl⟩ := hrel
    by_cases hlt : k < n
    · have g1 := h1 k hlt
      have g2 := h2 k hlt
      have HA : Hid (∀ j, j < k → X j = Y j) := hall
      have HK : Hid (k + gk = n) := hk
      clear hall h1 h2 hk
      have hlt' : (k : Int) < n := by omega
      by_cases hxy : X k = Y k
      · have hd : (X k != Y k) = false := by simp [hxy]
        have HE : Hid (X k = Y k) := hxy
        clear hxy
        go_wp2
        go_quiet (fail)
        go_wp2
        have hk := HK.out
        go_roundg (gk - 1)
        case rel =>
          refine ⟨k + 1, by omega, by go_num, ?_, q + nq, by first | rfl | exact drewN_two _ _ _⟩
          intro j hj
          rcases Nat.lt_succ_iff_lt_or_eq.1 hj with h | rfl
          · exact HA.out j h
          · exact HE.out
        case measure => omega
      · have hd : (X k != Y k) = true := by simp [hxy]
        go_wp2
        go_quiet (fail)
        go_wp2
        go_ret
        exact ⟨ret_bool (decide_eq_false (p := ∀ i, i < n → X i = Y i) (fun h => hxy (h k hlt))).symm, q + nq, by first | rfl | exact drewN_two _ _ _⟩
    · go_wp2
      go_ret
      have : k = n := by omega
      subst this
      exact ⟨by simp; exact hall, q, rfl⟩

set_option maxHeartbeats 400000 in
theorem bytesEq_len (a1 a2 : Option Addr) (n1 n2 c1 c2 : Nat) (w : World) (h : n1 ≠ n2) :
    Calls Try.prog 11 #[.slice a1 n1 c1, .slice a2 n2 c2] w fun e w' => e = .returned (.bool false) ∧ ∃ q, w' = w.drewN q := by
  have hd : ((n1 : Int) != (n2 : Int)) = true := by simp; omega
  go_enter Try.func11, Try.ntmps11
  go_wp2
  go_ret
  exact ⟨rfl, 0, rfl⟩

set_option maxHeartbeats 400000 in
theorem bytesEq_zero (a1 a2 : Option Addr) (c1 c2 : Nat) (w : World) :
    Calls Try.prog 11 #[.slice a1 0 c1, .slice a2 0 c2] w fun e w' => e = .returned (.bool true) ∧ ∃ q, w' = w.drewN q := by
  go_enter Try.func11, Try.ntmps11
  go_wp2
  refine wp_loop_once ?_
  go_wp2
  go_ret
  exact ⟨rfl, 0, rfl⟩

theorem bytesEq_any {a1 a2 : Option Addr} {c1 c2 : Nat} {xs ys : List UInt8} {w : World} (h1 : BS w a1 xs) (h2 : BS w a2 ys) :
    Calls Try.prog 11 #[.slice a1 xs.length c1, .slice a2 ys.length c2] w fun e w' => e = .returned (.bool (decide (xs = ys))) ∧ ∃ q, w' = w.drewN q := by
  by_cases hl : xs.length = ys.length
  · rw [← hl]
    rcases h1 with ⟨hm, rfl | ⟨b1, o1, rfl, g1⟩⟩
    · have : ys = [] := List.eq_nil_of_length_eq_zero (by simpa using hl.symm)
      subst this
      simpa using bytesEq_zero a1 a2 c1 c2 w
    · rcases h2 with ⟨hm2, rfl | ⟨b2, o2, rfl, g2⟩⟩
      · have : xs = [] := List.eq_nil_of_length_eq_zero (by simpa using hl)
        subst this
        simpa using bytesEq_zero (some ⟨b1, o1, none⟩) a2 c1 c2 w
      · refine (bytesEq_walk b1 o1 b2 o2 xs.length c1 c2 (fun i => ((xs.getD i 0).toNat : Int)) (fun i => ((ys.getD i 0).toNat : Int)) w hm g1 (by rw [hl]; exact g2)).mono ?_
        rintro e w' ⟨rfl, hq⟩
        refine ⟨?_, hq⟩
        congr 2
        exact decide_eq_decide.2 (getD_eq_iff xs ys hl)
  · refine (bytesEq_len a1 a2 xs.length ys.length c1 c2 w hl).mono ?_
    rintro e w' ⟨rfl, hq⟩
    refine ⟨?_, hq⟩
    rw [decide_eq_false (p := xs = ys) (fun h => hl (by rw [h]))]

/-! ### cloneBytes -/
theorem Try.info5 : (Try.prog.info? 5).map (fun i => (i.zero, i.size, i.bytes)) = some (some (.int .u8 0), 1, 1) := by kernel_rfl
theorem Try.size5 : (Try.prog.info? 5).map (·.size) = some 1 := by kernel_rfl

def cloneV (w : World) (a : Option Addr) (xs : List UInt8) : Value :=
  match a with | none => .slice none 0 0 | some _ => .slice (some ⟨w.heap.size, 0, none⟩) xs.length xs.length
def cloneW (w : World) (a : Option Addr) (xs : List UInt8) : World :=
  match a with | none => w | some _ => w.alloc (.cells (xs.map bv).toArray 5)

theorem setRow_alloc (w : World) (c cs : Array Value) (t : TypeId) : (w.alloc (.cells c t)).setRow w.heap.size cs = w.alloc (.cells cs t) := by
  have h : ∀ (f : Obj → Obj), f (.cells c t) = .cells cs t → (w.heap.push (.cells c t)).modify w.heap.size f = w.heap.push (.cells cs t) := by
    intro f hf
    apply Array.ext_getElem?
    intro i
    rw [Array.getElem?_modify, Array.getElem?_push, Array.getElem?_push]
    by_cases hi : i = w.heap.size
    · subst hi; simp [hf]
    · rw [if_neg (fun e => hi e.symm), if_neg hi, if_neg hi]
  show { w with heap := (w.heap.push (.cells c t)).modify w.heap.size _ } = { w with heap := w.heap.push (.cells cs t) }
  rw [h _ rfl]

theorem bv_one {xs : List UInt8} : ∀ v ∈ xs.map bv, v.oneCell' = true := by
  intro v hv
  obtain ⟨x, _, rfl⟩ := List.mem_map.1 hv
  rfl

set_option maxHeartbeats 400000 in
theorem cloneBytes_nil (n c : Nat) (w : World) :
    Calls Try.prog 13 #[.slice none n c] w fun e w' => e = .returned (.slice none 0 0) ∧ w' = w := by
  have hnil := fun (w : World) (a : Option Addr) (n c : Nat) => Lib.run_eql_slice_nil (P := Try.prog) w 29 5 a n c 0 0 Try.underlying29
  go_enter Try.func13, Try.ntmps13
  go_wp2
  go_ret
  exact ⟨rfl, rfl⟩

set_option maxHeartbeats 400000 in
theorem cloneBytes_some (a : Addr) (xs : List UInt8) (c : Nat) (w : World) (hm : xs.length ≤ 1048576) (hx : ∀ j v, (xs.map bv)[j]? = some v → w.cell? (a.add j) = some v) :
    Calls Try.prog 13 #[.slice (some a) xs.length c] w fun e w' => e = .returned (.slice (some ⟨w.heap.size, 0, none⟩) xs.length xs.length) ∧ w' = w.alloc (.cells (xs.map bv).toArray 5) := by
  have hnil := fun (w : World) (a : Option Addr) (n c : Nat) => Lib.run_eql_slice_nil (P := Try.prog) w 29 5 a n c 0 0 Try.underlying29
  have hmk := fun w => run_make_row' (P := Try.prog) 29 5 (.int .u8 0) 1 Try.underlying29 Try.info5 rfl .i64 .i64 xs.length (by omega) (by omega) w
  have hx' : ∀ o : Obj, ∀ j v, (xs.map bv)[j]? = some v → (w.alloc o).cell? (a.add j) = some v := fun o j v hj => by
    have h := hx j v hj
    exact (World.cell?_alloc_lt _ _ _ (World.block_lt_of_cell? _ _ h)).trans h
  have hcp : (Builtin.copy_ #[29, 29] 3 #[.slice (some ⟨w.heap.size, 0, none⟩) xs.length xs.length, .slice (some a) xs.length c]).run Try.prog (w.alloc (.cells (madeCells #[.int .u8 0] xs.length) 5)) =
      .ok (goInt xs.length) (w.alloc (.cells (xs.map bv).toArray 5)) := by
    have h := run_copy_row (P := Try.prog) (w.alloc (.cells (madeCells #[.int .u8 0] xs.length) 5)) 29 29 3 5 w.heap.size 0 xs.length xs.length a xs.length c _ 5 (xs.map bv) Try.underlying29 Try.size5 (heap_alloc_new w _) (by simp) (hx' _) (by simp [size_madeCells]) bv_one
    rw [h, setRow_alloc, toList_madeCells_one]
    simp
  clear hx hx'
  go_enter Try.func13, Try.ntmps13
  go_wp2
  go_ret
  exact ⟨rfl, rfl⟩

theorem cloneBytes_any {a : Option Addr} {c : Nat} {xs : List UInt8} {w : World} (h : BS w a xs) (hm : xs.length ≤ 1048576) :
    Calls Try.prog 13 #[.slice a xs.length c] w fun e w' => e = .returned (cloneV w a xs) ∧ w' = cloneW w a xs := by
  cases a with
  | none =>
    refine (cloneBytes_nil xs.length c w).mono ?_
    rintro e w' ⟨rfl, rfl⟩
    exact ⟨rfl, rfl⟩
  | some a =>
    refine (cloneBytes_some a xs c w hm ?_).mono ?_
    · intro j v hj
      rcases h.2 with rfl | ⟨b, o, he, hc⟩
      · simp at hj
      · cases he
        rw [List.getElem?_map, Option.map_eq_some_iff] at hj
        obtain ⟨x, hx, rfl⟩ := hj
        have hl : j < xs.length := by
          rcases Nat.lt_or_ge j xs.length with h | h
          · exact h
          · rw [List.getElem?_eq_none h] at hx; cases hx
        rw [add_plain, hc j hl]
        simp [List.getD, hx]
    · rintro e w' ⟨rfl, rfl⟩
      exact ⟨rfl, rfl⟩

/-! ### Lists of byte slices -/
/-- The slice value 'v' holds the bytes 'xs'. -/
def Elt (w : World) (v : Value) (xs : List UInt8) : Prop := ∃ a c, v = .slice a xs.length c ∧ BS w a xs
/-- The list of byte slices 'ks' lies behind 'a'. -/
def LS (w : World) (a : Option Addr) (ks : List (List UInt8)) : Prop :=
  ks.length ≤ 9223372036854775807 ∧ (ks = [] ∨ ∃ b o, a = some ⟨b, o, none⟩ ∧ ∀ i, i < ks.length → ∃ v, w.cell? ⟨b, o + i, none⟩ = some v ∧ Elt w v (ks.getD i []))

/-- Whatever bool the bound on the bytes answers, nothing turns. -/
def IsBool (w : World) (e : Ending) (w' : World) : Prop := (∃ b, e = .returned (.bool b)) ∧ w' = w

set_option maxHeartbeats 1000000 in
theorem zzBytes_walk (a1 a2 : Option Addr) (n1 n2 c1 c2 : Nat) (w : World) (hm1 : n1 ≤ 9223372036854775807) (hm2 : n2 ≤ 9223372036854775807)
    (h1 : ∀ i, i < n1 → ∃ b o, a1 = some ⟨b, o, none⟩ ∧ ∃ a l c, w.cell? ⟨b, o + i, none⟩ = some (.slice a l c) ∧ l ≤ 9223372036854775807)
    (h2 : ∀ i, i < n2 → ∃ b o, a2 = some ⟨b, o, none⟩ ∧ ∃ a l c, w.cell? ⟨b, o + i, none⟩ = some (.slice a l c) ∧ l ≤ 9223372036854775807) :
    Calls Try.prog 7 #[.slice a1 n1 c1, .slice a2 n2 c2] w (IsBool w) := by
  go_enter Try.func7, Try.ntmps7
  go_wp2
  · go_ret
    exact ⟨⟨_, rfl⟩, rfl⟩
  go_loopg [5, 6] n1 (fun g z i wr => ∃ (k : Nat) (x : Int), k + g = n1 ∧ i = .int .i64 k ∧ z = .int .i64 x ∧ 0 ≤ x ∧ x ≤ 1048576 ∧ wr = w)
  case atStart => exact ⟨0, _, by omega, rfl, rfl, by omega, by omega, rfl⟩
  case round =>
    obtain ⟨k, x, hk, rfl, rfl, hx0, hx1, rfl⟩ := hrel
    by_cases hlt : k < n1
    · obtain ⟨b, o, rfl, a, l, c, hc, hl⟩ := h1 k hlt
      clear h1
      go_wp2
      · go_ret
        exact ⟨⟨_, rfl⟩, rfl⟩
      · go_ret
        exact ⟨⟨_, rfl⟩, rfl⟩
      · go_roundg (gk - 1)
        case rel => exact ⟨k + 1, _, by omega, by go_num, rfl, by omega, by omega, rfl⟩
        case measure => omega
    · go_wp2
      · go_ret
        exact ⟨⟨_, rfl⟩, rfl⟩
      · go_ret
        exact ⟨⟨_, rfl⟩, rfl⟩
      go_loopg [5, 7] n2 (fun g z i wr' => ∃ (k : Nat) (x : Int), k + g = n2 ∧ i = .int .i64 k ∧ z = .int .i64 x ∧ 0 ≤ x ∧ x ≤ 1048576 ∧ wr' = wr)
      case atStart => exact ⟨0, _, by omega, rfl, rfl, by omega, by omega, rfl⟩
      case round =>
        obtain ⟨k2, x2, hk2, rfl, rfl, hx02, hx12, rfl⟩ := hrel
        by_cases hlt2 : k2 < n2
        · obtain ⟨b, o, rfl, a, l, c, hc, hl⟩ := h2 k2 hlt2
          clear h2
          go_wp2
          · go_ret
            exact ⟨⟨_, rfl⟩, rfl⟩
          · go_ret
            exact ⟨⟨_, rfl⟩, rfl⟩
          · go_roundg (gk - 1)
            case rel => exact ⟨k2 + 1, _, by omega, by go_num, rfl, by omega, by omega, rfl⟩
            case measure => omega
        · go_wp2
          go_ret
          exact ⟨⟨_, rfl⟩, rfl⟩

set_option maxHeartbeats 1000000 in
theorem zzBytes2_walk (a1 a2 : Option Addr) (n1 n2 c1 c2 : Nat) (w : World) (hm1 : n1 ≤ 9223372036854775807) (hm2 : n2 ≤ 9223372036854775807)
    (h1 : ∀ i, i < n1 → ∃ b o, a1 = some ⟨b, o, none⟩ ∧ ∃ a l c, w.cell? ⟨b, o + i, none⟩ = some (.slice a l c) ∧ l ≤ 9223372036854775807)
    (h2 : ∀ i, i < n2 → ∃ b o, a2 = some ⟨b, o, none⟩ ∧ ∃ a l c, w.cell? ⟨b, o + i, none⟩ = some (.slice a l c) ∧ l ≤ 9223372036854775807) :
    Calls Try.prog 14 #[.slice a1 n1 c1, .slice a2 n2 c2] w (IsBool w) := by
  go_enter Try.func14, Try.ntmps14
  go_wp2
  · go_ret
    exact ⟨⟨_, rfl⟩, rfl⟩
  go_loopg [5, 6] n1 (fun g z i wr => ∃ (k : Nat) (x : Int), k + g = n1 ∧ i = .int .i64 k ∧ z = .int .i64 x ∧ 0 ≤ x ∧ x ≤ 1048576 ∧ wr = w)
  case atStart => exact ⟨0, _, by omega, rfl, rfl, by omega, by omega, rfl⟩
  case round =>
    obtain ⟨k, x, hk, rfl, rfl, hx0, hx1, rfl⟩ := hrel
    by_cases hlt : k < n1
    · obtain ⟨b, o, rfl, a, l, c, hc, hl⟩ := h1 k hlt
      clear h1
      go_wp2
      · go_ret
        exact ⟨⟨_, rfl⟩, rfl⟩
      · go_ret
        exact ⟨⟨_, rfl⟩, rfl⟩
      · go_roundg (gk - 1)
        case rel => exact ⟨k + 1, _, by omega, by go_num, rfl, by omega, by omega, rfl⟩
        case measure => omega
    · go_wp2
      · go_ret
        exact ⟨⟨_, rfl⟩, rfl⟩
      · go_ret
        exact ⟨⟨_, rfl⟩, rfl⟩
      go_loopg [5, 7] n2 (fun g z i wr' => ∃ (k : Nat) (x : Int), k + g = n2 ∧ i = .int .i64 k ∧ z = .int .i64 x ∧ 0 ≤ x ∧ x ≤ 1048576 ∧ wr' = wr)
      case atStart => exact ⟨0, _, by omega, rfl, rfl, by omega, by omega, rfl⟩
      case round =>
        obtain ⟨k2, x2, hk2, rfl, rfl, hx02, hx12, rfl⟩ := hrel
        by_cases hlt2 : k2 < n2
        · obtain ⟨b, o, rfl, a, l, c, hc, hl⟩ := h2 k2 hlt2
          clear h2
          go_wp2
          · go_ret
            exact ⟨⟨_, rfl⟩, rfl⟩
          · go_ret
            exact ⟨⟨_, rfl⟩, rfl⟩
          · go_roundg (gk - 1)
            case rel => exact ⟨k2 + 1, _, by omega, by go_num, rfl, by omega, by omega, rfl⟩
            case measure => omega
        · go_wp2
          go_ret
          exact ⟨⟨_, rfl⟩, rfl⟩


/-- What a budget's answer says where it is not negative. -/
def BudSays (L : Nat → Nat) (n : Nat) (bud : Int) (w : World) (e : Ending) (w' : World) : Prop :=
  ∃ r : Int, e = .returned (.int .i64 r) ∧ w' = w ∧ r ≤ bud ∧ -1 ≤ r ∧ (0 ≤ r → 24 * (n : Int) ≤ bud ∧ ∀ i, i < n → (L i : Int) ≤ bud)

set_option maxHeartbeats 1000000 in
theorem budget_walk (a1 : Option Addr) (n c : Nat) (L : Nat → Nat) (bud : Int) (w : World) (hm : n ≤ 9223372036854775807) (hb0 : 0 ≤ bud) (hb : bud ≤ 1048576)
    (h1 : ∀ i, i < n → ∃ b o, a1 = some ⟨b, o, none⟩ ∧ ∃ a c, w.cell? ⟨b, o + i, none⟩ = some (.slice a (L i) c) ∧ L i ≤ 9223372036854775807) :
    Calls Try.prog 8 #[.slice a1 n c, .int .i64 bud] w (BudSays L n bud w) := by
  have hb0' : ¬ bud < 0 := by omega
  by_cases hq : bud / 24 < (n : Int)
  · go_enter Try.func8, Try.ntmps8
    go_wp2
    go_ret
    exact ⟨_, rfl, rfl, by omega, by omega, fun h => by omega⟩
  have hn24 : 24 * (n : Int) ≤ bud := by omega
  go_enter Try.func8, Try.ntmps8
  go_wp2
  go_loopg [5, 6] n (fun g l i wr => ∃ (k : Nat) (lf : Int), k + g = n ∧ i = .int .i64 k ∧ l = .int .i64 lf ∧ 0 ≤ lf ∧ lf ≤ bud ∧ (∀ j, j < k → (L j : Int) ≤ bud) ∧ wr = w)
  case atStart => exact ⟨0, _, by omega, rfl, rfl, by omega, by omega, fun j hj => by omega, rfl⟩
  case round =>
    obtain ⟨k, lf, hk, rfl, rfl, h0, h0', hall, rfl⟩ := hrel
    by_cases hlt : k < n
    · obtain ⟨b, o, rfl, a, c, hc, hl⟩ := h1 k hlt
      clear h1
      go_wp2
      · go_ret
        exact ⟨_, rfl, rfl, by omega, by omega, fun h => by omega⟩
      · go_roundg (gk - 1)
        case rel =>
          refine ⟨k + 1, _, by omega, by go_num, rfl, by omega, by omega, ?_, rfl⟩
          intro j hj
          rcases Nat.lt_succ_iff_lt_or_eq.1 hj with h | rfl
          · exact hall j h
          · omega
        case measure => omega
    · go_wp2
      go_ret
      have hkn : k = n := by omega
      subst hkn
      exact ⟨_, rfl, rfl, by omega, by omega, fun _ => ⟨hn24, hall⟩⟩

/-- A fresh object container. -/
theorem newObject_walk (f : Int) (w : World) : Calls Try.prog 10 #[.int .i64 f] w fun e w' => e = .returned (.pointer (some ⟨w.heap.size, 0, none⟩)) ∧
    w' = w.alloc (.cells #[.bool true, .int .i64 f, .map none, .slice none 0 0, .bool true, .int .i64 0] 38) := by
  go_enter Try.func10, Try.ntmps10
  go_wp2
  go_ret
  exact ⟨rfl, rfl⟩

end Go.Proofs.Qxb6601109a
