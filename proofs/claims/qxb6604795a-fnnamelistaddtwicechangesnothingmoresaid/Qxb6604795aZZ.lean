import Derived.Test.Qxb6604795aAdd2
import Derived.Laws.MakeOwn
namespace Go.Proofs.Qxb6604795a
open Go.RowKit Go.Maps

theorem run_make61 (n : Nat) (hn : n ≤ 65537) (w : World) : (Instr.makeSlice 61 (.int .i64 (n : Int)) (.int .i64 (n : Int))).run Try.prog w =
    .ok (.slice (some ⟨w.heap.size, 0, none⟩) n n) (w.alloc (.cells (madeCells #[.string ByteArray.empty, .slice none 0 0, .int .i64 0] (n * 3)) 63)) := by
  obtain ⟨i, hi, hz0, hz1, hz2⟩ := info_parts Try.info63
  have := run_make (P := Try.prog) w 61 63 i _ Try.underlying61 hi hz0 .i64 .i64 n n (by omega) (Int.le_refl _) (by rw [hz2]; omega) (by omega)
  simpa [hz1, Value.cells] using this

theorem results_tmp7 {fn : Func} {t0 t1 t2 t3 t4 t5 t6 : Tmp} (h : fn.results = #[.tmp t0, .tmp t1, .tmp t2, .tmp t3, .tmp t4, .tmp t5, .tmp t6]) (tmps : Array Value) (P : Program) (w : World) :
    (results fn tmps).run P w = .ok (.tuple #[tmps.getD t0 undef, tmps.getD t1 undef, tmps.getD t2 undef, tmps.getD t3 undef, tmps.getD t4 undef, tmps.getD t5 undef, tmps.getD t6 undef]) w := by
  simp [results, h]

/-- The entries, as they are laid one by one. -/
def Laid (w : World) (eb n k : Nat) (S : Nat → ByteArray) (R : Rows2) (T : Nat → Int) : Prop :=
  ∃ E, w.rowIs eb 63 (n * 3) E ∧ ∀ i, i < k → E (i * 3) = .string (S i) ∧ E (i * 3 + 1) = R.v i ∧ E (i * 3 + 2) = .int .i64 (T i)

theorem Laid.made (w : World) (n : Nat) (S : Nat → ByteArray) (R : Rows2) (T : Nat → Int) : Laid (w.alloc (.cells (madeCells #[.string ByteArray.empty, .slice none 0 0, .int .i64 0] (n * 3)) 63)) w.heap.size n 0 S R T := by
  have hs : (madeCells #[.string ByteArray.empty, .slice none 0 0, .int .i64 0] (n * 3)).size = n * 3 := size_madeCells _ _
  have := World.rowIs_alloc w (madeCells #[.string ByteArray.empty, .slice none 0 0, .int .i64 0] (n * 3)) 63 (fun i => (madeCells #[.string ByteArray.empty, .slice none 0 0, .int .i64 0] (n * 3)).getD i undef) (fun i hi => by simp [Array.getD, hi])
  rw [hs] at this
  exact ⟨_, this, fun i hi => by omega⟩

theorem Laid.step {w : World} {eb n k : Nat} {E : Nat → Value} {S : Nat → ByteArray} {R : Rows2} {T : Nat → Int} (h : w.rowIs eb 63 (n * 3) E) (hE : ∀ i, i < k → E (i * 3) = .string (S i) ∧ E (i * 3 + 1) = R.v i ∧ E (i * 3 + 2) = .int .i64 (T i)) :
    Laid (((w.setCell ⟨eb, k * 3, none⟩ (.string (S k))).setCell ⟨eb, k * 3 + 1, none⟩ (R.v k)).setCell ⟨eb, k * 3 + 2, none⟩ (.int .i64 (T k))) eb n (k + 1) S R T := by
  refine ⟨_, ((h.set (k * 3) _).set (k * 3 + 1) _).set (k * 3 + 2) _, fun i hi => ?_⟩
  rcases Nat.lt_succ_iff_lt_or_eq.1 hi with hl | rfl
  · obtain ⟨e0, e1, e2⟩ := hE i hl
    simp only [show ¬ i * 3 = k * 3 + 2 by omega, show ¬ i * 3 = k * 3 + 1 by omega, show ¬ i * 3 = k * 3 by omega, show ¬ i * 3 + 1 = k * 3 + 2 by omega, show ¬ i * 3 + 1 = k * 3 + 1 by omega, show ¬ i * 3 + 1 = k * 3 by omega, show ¬ i * 3 + 2 = k * 3 by omega, show ¬ i * 3 + 2 = k * 3 + 1 by omega, show ¬ i * 3 + 2 = k * 3 + 2 by omega, if_false]
    exact ⟨e0, e1, e2⟩
  · simp

def ZZSays (w : World) (m n nn : Nat) (kind name about : ByteArray) (left : Int) (S : Nat → ByteArray) (R : Rows2) (T : Nat → Int) (B : Nat) (e : Ending) (w' : World) : Prop :=
  ∃ (ch : Bool) (n' : Nat) (a1 a2 a3 : Option Addr) (S' : Nat → ByteArray) (R' : Rows2) (T' : Nat → Int) (F' : ByteArray → Option Int) (nn' : Nat), e = .returned (.tuple #[.bool ch, .slice a1 n' n', .slice a2 n' n', .slice a3 n' n', .map (some m), .string kind, .int .i64 left]) ∧
    SS 0 w' a1 n' S' ∧ LS 0 w' a2 n' R' ∧ IS 0 w' a3 n' T' ∧ IMap Unit w' m nn' n' F' ∧ nn' ≤ nn + 1 ∧ n' ≤ n + 1 ∧ Upto n' S' n' F' ∧ AddRel kind name about n S R.L R.X T ch n' S' R'.L R'.X T' ∧ Keeps w w' ∧ Below B w w'

set_option maxRecDepth 100000 in
set_option maxHeartbeats 1000000 in
theorem zz_walk (w : World) (a1 a2 a3 : Option Addr) (c1 c2 c3 m n nn : Nat) (kind name about : ByteArray) (left : Int) (S : Nat → ByteArray) (R : Rows2) (T : Nat → Int) (F : ByteArray → Option Int) (B : Nat) (h1 : SS 0 w a1 n S) (h2 : LS 0 w a2 n R) (h3 : IS 0 w a3 n T)
    (him : IMap Unit w m nn n F) (hup : Upto n S n F) (hnn : nn ≤ 1048576) (hn : n ≤ 65537) (hl : ∀ i, i < n → R.L i ≤ 1048577) (hnm : name.size ≤ 1048576) (hcap : ∀ k, k < n → S k = name → Gains kind about (R.L k) (R.X k) → R.C k = R.L k) (hB1 : B ≤ w.heap.size) (hB2 : B ≤ m) :
    Calls Try.prog 25 #[.string kind, .slice a1 n c1, .slice a2 n c2, .slice a3 n c3, .map (some m), .int .i64 left, .string name, .string about] w (ZZSays w m n nn kind name about left S R T B) := by
  have hmk := run_make61 n (by omega)
  have hn63 : n ≤ 9223372036854775807 := h1.1
  go_enter Try.func25, Try.ntmps25
  go_wp2_with fail
  clear hmk
  have hlaid := Laid.made w n S R T
  have hbe : Below w.heap.size w (w.alloc (.cells (madeCells #[.string ByteArray.empty, .slice none 0 0, .int .i64 0] (n * 3)) 63)) := (Below.refl _ _).alloc (Nat.le_refl _) _
  go_loopg [36] n (fun g i wr => ∃ k : Nat, k + g = n ∧ i = .int .i64 k ∧ Laid wr w.heap.size n k S R T ∧ Below w.heap.size w wr)
  case atStart => exact ⟨0, by omega, rfl, hlaid, hbe⟩
  case round =>
    obtain ⟨k, hk, rfl, ⟨E, hE, hEv⟩, hbel⟩ := hrel
    clear hlaid hbe
    by_cases hlt : k < n
    · obtain ⟨b1, o1, rfl, _, q1⟩ := (h1.keeps (Keeps.below hbel)).at hlt
      obtain ⟨b2, o2, rfl, _, q2⟩ := (h2.1.keeps (Keeps.below hbel)).at hlt
      obtain ⟨b3, o3, rfl, _, q3⟩ := (h3.keeps (Keeps.below hbel)).at hlt
      rw [Rows2.v] at q2
      have HST := Laid.step (S := S) (R := R) (T := T) hE hEv
      rw [Rows2.v] at HST
      have g0 := hE.cell (i := k * 3) (by omega)
      have g1 := hE.cell (i := k * 3 + 1) (by omega)
      have g2 := hE.cell (i := k * 3 + 2) (by omega)
      have gf := hE.frozen
      have hlt' : (k : Int) < n := by omega
      have HK : Hid (k + gk = n) := hk
      have HBE : Hid (Below w.heap.size w wr) := hbel
      have HSTH : Hid (Laid (((wr.setCell ⟨w.heap.size, k * 3, none⟩ (.string (S k))).setCell ⟨w.heap.size, k * 3 + 1, none⟩ (.slice (R.A k) (R.L k) (R.C k))).setCell ⟨w.heap.size, k * 3 + 2, none⟩ (.int .i64 (T k))) w.heap.size n (k + 1) S R T) := HST
      clear h1 h2 h3 hk HST hEv hbel him hup hl hcap hE
      go_wp2_with fail
      go_region
      go_wp2_with fail
      have hk := HK.out
      go_roundg (gk - 1)
      case rel =>
        refine ⟨k + 1, by omega, by go_num, ?_, ?_⟩
        · exact HSTH.out
        · have hb := HBE.out
          have H : Below w.heap.size w (((wr.setCell ⟨w.heap.size, k * 3, none⟩ (.string (S k))).setCell ⟨w.heap.size, k * 3 + 1, none⟩ (.slice (R.A k) (R.L k) (R.C k))).setCell ⟨w.heap.size, k * 3 + 2, none⟩ (.int .i64 (T k))) :=
            ((hb.setCell (Nat.le_refl _) _).setCell (Nat.le_refl _) _).setCell (Nat.le_refl _) _
          exact ⟨H.os, H.tape, H.output, H.size, H.block⟩
      case measure => omega
    · have hkn : k = n := by omega
      subst hkn
      rename World => w3
      have hk3 := Keeps.below hbel
      have him3 := him.kept (hbel.block m him.lt)
      have hlt3 := hE.lt
      have h4 : (w3.alloc (.cells #[.string kind, .slice (some ⟨w.heap.size, 0, none⟩) k k, .map (some m), .int .i64 left] 67)).heap[w3.heap.size]? = some (.cells #[.string kind, .slice (some ⟨w.heap.size, 0, none⟩) k k, .map (some m), .int .i64 left] 67 (0, 0)) := heap_alloc_new w3 _
      have hL : LCells (w3.alloc (.cells #[.string kind, .slice (some ⟨w.heap.size, 0, none⟩) k k, .map (some m), .int .i64 left] 67)) w3.heap.size kind (.slice (some ⟨w.heap.size, 0, none⟩) k k) m left := by
        constructor <;> (rw [World.cell?]; simp only [h4]; rfl)
      have hlf : ∀ o, (w3.alloc (.cells #[.string kind, .slice (some ⟨w.heap.size, 0, none⟩) k k, .map (some m), .int .i64 left] 67)).frozen? ⟨w3.heap.size, o, none⟩ = false := fun o => by
        rw [World.frozen?]; simp only [h4]; simp
      have hadd := add_walk w (w3.alloc (.cells #[.string kind, .slice (some ⟨w.heap.size, 0, none⟩) k k, .map (some m), .int .i64 left] 67)) w3.heap.size w.heap.size m k nn kind name about left E S R T F B hL hlf (by omega) (hE.alloc _) hEv h2.2
        (hk3.trans (Keeps.below ((Below.refl _ _).alloc (Nat.le_refl _) _))) hbel.size (Nat.le_refl _) (him3.kept (Below.heap_alloc _ _ _ him3.lt)) hup hnn (by omega) hl hnm hcap hB1 hB2 (by have := hbel.size; simp; omega)
      have HB4 : Hid (Below B w (w3.alloc (.cells #[.string kind, .slice (some ⟨w.heap.size, 0, none⟩) k k, .map (some m), .int .i64 left] 67))) := (hbel.trans (((Below.refl _ _).alloc (Nat.le_refl _) _).mono hbel.size)).mono hB1
      clear h1 h2 h3 him hup hl hcap hEv hE hL hlf h4 him3 hk3
      go_wp2_with fail
      refine hadd.mono ?_
      clear hadd
      rintro e w5 ⟨ch, n', eb, c, S', R', T', F', nn', E', rfl, ⟨c0, c1, c2, c3⟩, hE, hEv, hrows, him, hnn', hn', hup, hrel, hk5, hb5⟩
      obtain ⟨lb, hlb⟩ : ∃ lb, lb = w3.heap.size := ⟨_, rfl⟩
      rw [← hlb] at c0 c1 c2 c3 ⊢
      have HB5 : Hid (Below B w w5) := HB4.out.trans (hb5.mono (Nat.le_refl _))
      have HSZ : Hid (w.heap.size ≤ w5.heap.size) := HB5.out.size
      have HREL : Hid (AddRel kind name about k S R.L R.X T ch n' S' R'.L R'.X T') := hrel
      have hlt5 : lb < w5.heap.size := World.block_lt_of_cell? _ _ c0
      have hm1 := fun w => run_make_row' (P := Try.prog) 35 9 (.string ByteArray.empty) 16 Try.underlying35 Try.info9 rfl .i64 .i64 n' (by omega) (by omega) w
      have hm2 := fun w => run_make_row' (P := Try.prog) 36 35 (.slice none 0 0) 24 Try.underlying36 Try.info35 rfl .i64 .i64 n' (by omega) (by omega) w
      have hm3 := fun w => run_make_row' (P := Try.prog) 25 3 (.int .i64 0) 8 Try.underlying25 Try.info3 rfl .i64 .i64 n' (by omega) (by omega) w
      clear hlb hb5 HB4 hrel
      have hb6 : Below w5.heap.size w5 (((w5.alloc (.cells (madeCells #[.string ByteArray.empty] n') 9)).alloc (.cells (madeCells #[.slice none 0 0] n') 35)).alloc (.cells (madeCells #[.int .i64 0] n') 3)) :=
        (((Below.refl _ _).alloc (Nat.le_refl _) _).alloc (by simp) _).alloc (by simp; omega) _
      have hr1 : (((w5.alloc (.cells (madeCells #[.string ByteArray.empty] n') 9)).alloc (.cells (madeCells #[.slice none 0 0] n') 35)).alloc (.cells (madeCells #[.int .i64 0] n') 3)).rowIs w5.heap.size 9 n' (fun _ => .string ByteArray.empty) :=
        ((World.rowIs_made w5 _ n' 9).alloc _).alloc _
      have hr2 : (((w5.alloc (.cells (madeCells #[.string ByteArray.empty] n') 9)).alloc (.cells (madeCells #[.slice none 0 0] n') 35)).alloc (.cells (madeCells #[.int .i64 0] n') 3)).rowIs (w5.heap.size + 1) 35 n' (fun _ => .slice none 0 0) := by
        have := (World.rowIs_made (w5.alloc (.cells (madeCells #[.string ByteArray.empty] n') 9)) (.slice none 0 0) n' 35).alloc (.cells (madeCells #[.int .i64 0] n') 3)
        simpa using this
      have hr3 : (((w5.alloc (.cells (madeCells #[.string ByteArray.empty] n') 9)).alloc (.cells (madeCells #[.slice none 0 0] n') 35)).alloc (.cells (madeCells #[.int .i64 0] n') 3)).rowIs (w5.heap.size + 1 + 1) 3 n' (fun _ => .int .i64 0) := by
        have := World.rowIs_made ((w5.alloc (.cells (madeCells #[.string ByteArray.empty] n') 9)).alloc (.cells (madeCells #[.slice none 0 0] n') 35)) (.int .i64 0) n' 3
        simpa using this
      have d1 := (Keeps.below hb6) _ _ c1
      go_wp2_with fail
      clear hm1 hm2 hm3 d1
      go_loopg [89] n' (fun g i wr => ∃ (k : Nat) (f1 f2 f3 : Nat → Value), k + g = n' ∧ i = .int .i64 k ∧ wr.rowIs w5.heap.size 9 n' f1 ∧ wr.rowIs (w5.heap.size + 1) 35 n' f2 ∧ wr.rowIs (w5.heap.size + 1 + 1) 3 n' f3 ∧
        (∀ j, j < k → f1 j = .string (S' j) ∧ f2 j = R'.v j ∧ f3 j = .int .i64 (T' j)) ∧ Below w5.heap.size w5 wr)
      case atStart => exact ⟨0, _, _, _, by omega, rfl, hr1, hr2, hr3, fun j hj => by omega, hb6⟩
      case round =>
        clear hr1 hr2 hr3 hb6
        obtain ⟨j, f1, f2, f3, hj, rfl, hr1, hr2, hr3, hf, hb6⟩ := hrel
        rename World => w6
        have k6 := Keeps.below hb6
        by_cases hlt : j < n'
        · have hlt' : (j : Int) < n' := by omega
          obtain ⟨x0, x1, x2⟩ := hEv j hlt
          have y0 : w6.cell? ⟨eb, j * 3, none⟩ = some (.string (S' j)) := by
            rcases hE.2 with h | ⟨b, o, e, _, hc⟩
            · omega
            · cases e
              have := k6 _ _ (hc (j * 3) (by omega))
              rw [Nat.zero_add, x0] at this
              exact this
          have y1 : w6.cell? ⟨eb, j * 3 + 1, none⟩ = some (R'.v j) := by
            rcases hE.2 with h | ⟨b, o, e, _, hc⟩
            · omega
            · cases e
              have := k6 _ _ (hc (j * 3 + 1) (by omega))
              rw [Nat.zero_add, x1] at this
              exact this
          have y2 : w6.cell? ⟨eb, j * 3 + 2, none⟩ = some (.int .i64 (T' j)) := by
            rcases hE.2 with h | ⟨b, o, e, _, hc⟩
            · omega
            · cases e
              have := k6 _ _ (hc (j * 3 + 2) (by omega))
              rw [Nat.zero_add, x2] at this
              exact this
          have hebl : eb < w5.heap.size := by
            rcases hE.2 with h | ⟨b, o, e, _, hc⟩
            · omega
            · cases e
              exact World.block_lt_of_cell? _ _ (hc 0 (by omega))
          rw [Rows2.v] at y1
          have z0 := k6 _ _ c1
          obtain ⟨s, hs⟩ : ∃ s, s = S' j := ⟨_, rfl⟩
          obtain ⟨ra, hra⟩ : ∃ s, s = R'.A j := ⟨_, rfl⟩
          obtain ⟨rl, hrl⟩ : ∃ s, s = R'.L j := ⟨_, rfl⟩
          obtain ⟨rc, hrc⟩ : ∃ s, s = R'.C j := ⟨_, rfl⟩
          obtain ⟨t, ht⟩ : ∃ s, s = T' j := ⟨_, rfl⟩
          rw [← hs] at y0
          rw [← hra, ← hrl, ← hrc] at y1
          rw [← ht] at y2
          have o1 : ∀ (p : Addr) (v u : Value), p.block < w5.heap.size → w6.cell? p = some v → (w6.setCell ⟨w5.heap.size, j, none⟩ u).cell? p = some v := fun p v u hp h => (cell_setCell_other (by show p.block ≠ w5.heap.size; omega)).trans h
          have o2 : ∀ (p : Addr) (v u u' : Value), p.block < w5.heap.size → w6.cell? p = some v → ((w6.setCell ⟨w5.heap.size, j, none⟩ u).setCell ⟨w5.heap.size + 1, j, none⟩ u').cell? p = some v := fun p v u u' hp h => (cell_setCell_other (by show p.block ≠ w5.heap.size + 1; omega)).trans (o1 p v u hp h)
          have g1 := hr1.cell hlt
          have g1f := hr1.frozen j
          have z1 := o1 ⟨lb, 1, none⟩ _ (.string s) hlt5 z0
          have y1' := o1 ⟨eb, j * 3 + 1, none⟩ _ (.string s) hebl y1
          have hr2a := hr2.setOther (a := ⟨w5.heap.size, j, none⟩) (by show w5.heap.size + 1 ≠ w5.heap.size; omega) (.string s)
          have hr3a := (hr3.setOther (a := ⟨w5.heap.size, j, none⟩) (by show w5.heap.size + 1 + 1 ≠ w5.heap.size; omega) (.string s)).setOther (a := ⟨w5.heap.size + 1, j, none⟩) (by show w5.heap.size + 1 + 1 ≠ w5.heap.size + 1; omega) (.slice ra rl rc)
          have g2 := hr2a.cell hlt
          have g2f := hr2a.frozen j
          have z2 := o2 ⟨lb, 1, none⟩ _ (.string s) (.slice ra rl rc) hlt5 z0
          have y2' := o2 ⟨eb, j * 3 + 2, none⟩ _ (.string s) (.slice ra rl rc) hebl y2
          have g3 := hr3a.cell hlt
          have g3f := hr3a.frozen j
          have HJ : Hid (j + gk = n') := hj
          have HS : Hid (s = S' j ∧ ra = R'.A j ∧ rl = R'.L j ∧ rc = R'.C j ∧ t = T' j) := ⟨hs, hra, hrl, hrc, ht⟩
          have HF : Hid (∀ i, i < j → f1 i = .string (S' i) ∧ f2 i = R'.v i ∧ f3 i = .int .i64 (T' i)) := hf
          clear hs hra hrl hrc ht hj hf hEv x0 x1 x2 o1 o2 y1 y2 hup hrows k6 hE
          go_wp2_with fail
          have hj := HJ.out
          go_roundg (gk - 1)
          case rel =>
            obtain ⟨hs, hra, hrl, hrc, ht⟩ : s = S' j ∧ ra = R'.A j ∧ rl = R'.L j ∧ rc = R'.C j ∧ t = T' j := HS.out
            refine ⟨j + 1, _, _, _, by omega, by go_num, ((hr1.set j (.string s)).setOther (a := ⟨w5.heap.size + 1, j, none⟩) (by show w5.heap.size ≠ w5.heap.size + 1; omega) _).setOther (a := ⟨w5.heap.size + 1 + 1, j, none⟩) (by show w5.heap.size ≠ w5.heap.size + 1 + 1; omega) _,
              (hr2a.set j _).setOther (a := ⟨w5.heap.size + 1 + 1, j, none⟩) (by show w5.heap.size + 1 ≠ w5.heap.size + 1 + 1; omega) _, hr3a.set j _, fun i hi => ?_, ?_⟩
            · rcases Nat.lt_succ_iff_lt_or_eq.1 hi with h | rfl
              · simp only [show ¬ i = j by omega, if_false]
                exact HF.out i h
              · simp only [if_true, Rows2.v, hs, hra, hrl, hrc, ht, and_self]
            · exact ((hb6.setCell (Nat.le_refl _) _).setCell (by show w5.heap.size ≤ w5.heap.size + 1; omega) _).setCell (by show w5.heap.size ≤ w5.heap.size + 1 + 1; omega) _
          case measure => omega
        · have hjn : j = n' := by omega
          subst hjn
          have e0 := k6 _ _ c0
          have e2 := k6 _ _ c2
          have e3 := k6 _ _ c3
          go_wp2_with fail
          go_quiet (fail)
          go_wp2_with fail
          (try simp only [Exit.inBlock, Exit.then])
          refine bodyPost_ret (results_tmp7 rfl _ _ _) rfl ?_
          have hkq : Keeps w6 (w6.drewN nq) := Drawn.keeps ⟨nq, rfl⟩
          have hbq : Below B w (w6.drewN nq) := by
            have H : Below B w w6 := HB5.out.trans (hb6.mono (Nat.le_trans hB1 (Nat.le_trans HSZ.out (Nat.le_refl _))))
            exact ⟨H.os, H.tape, H.output, H.size, H.block⟩
          refine ⟨ch, j, some ⟨w5.heap.size, 0, none⟩, some ⟨w5.heap.size + 1, 0, none⟩, some ⟨w5.heap.size + 1 + 1, 0, none⟩, S', R', T', F', nn', rfl, ?_, ⟨?_, fun i hi => ((hrows i hi).keeps k6).keeps hkq⟩, ?_, him.kept (hb6.block m him.lt), hnn', hn', hup, HREL.out, (hk5.trans k6).trans hkq, hbq⟩
          · exact ((CS.row hr1 (Nat.zero_le _) (by omega)).congr (fun i hi => (hf i hi).1)).keeps hkq
          · exact ((CS.row hr2 (Nat.zero_le _) (by omega)).congr (fun i hi => (hf i hi).2.1)).keeps hkq
          · exact ((CS.row hr3 (Nat.zero_le _) (by omega)).congr (fun i hi => (hf i hi).2.2)).keeps hkq
end Go.Proofs.Qxb6604795a
