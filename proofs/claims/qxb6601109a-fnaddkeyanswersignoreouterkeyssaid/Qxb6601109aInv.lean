import Derived.Test.Qxb6601109aStep
namespace Go.Proofs.Qxb6601109a
open Go.RowKit Go.Maps

/-- The distinct keys among the first k, in order of first appearance. -/
def DD (S : List (List UInt8)) (k : Nat) : List (List UInt8) := (S.take k).foldl nextD []

theorem nextD_mem (D : List (List UInt8)) (key x : List UInt8) : x ∈ nextD D key ↔ x ∈ D ∨ x = key := by
  unfold nextD
  split
  · constructor
    · exact .inl
    · rintro (h | rfl) <;> assumption
  · simp
theorem foldl_mem (l : List (List UInt8)) : ∀ (D : List (List UInt8)) (x : List UInt8), x ∈ l.foldl nextD D ↔ x ∈ D ∨ x ∈ l := by
  induction l with
  | nil => simp
  | cons y l ih => intro D x; rw [List.foldl_cons, ih, nextD_mem, List.mem_cons]; exact or_assoc
theorem DD_mem (S : List (List UInt8)) (k : Nat) (x : List UInt8) : x ∈ DD S k ↔ x ∈ S.take k := by
  unfold DD; rw [foldl_mem]; simp
theorem DD_succ (S : List (List UInt8)) (k : Nat) (h : k < S.length) : DD S (k + 1) = nextD (DD S k) (S.getD k []) := by
  unfold DD
  rw [List.take_succ_eq_append_getElem h, List.foldl_append]
  simp [List.getD, List.getElem?_eq_getElem h]
theorem nextD_len (D : List (List UInt8)) (key : List UInt8) : (nextD D key).length ≤ D.length + 1 := by
  unfold nextD; split <;> simp
theorem DD_len (S : List (List UInt8)) : ∀ k, k ≤ S.length → (DD S k).length ≤ k
  | 0, _ => by simp [DD]
  | k + 1, h => by rw [DD_succ S k (by omega)]; have := nextD_len (DD S k) (S.getD k []); have := DD_len S k (by omega); omega
theorem DD_small {S : List (List UInt8)} (hS : Small S) (k : Nat) (hk : k ≤ S.length) : Small (DD S k) :=
  ⟨by have := DD_len S k hk; have := hS.1; omega, fun x hx => hS.2 x (List.mem_of_mem_take ((DD_mem S k x).1 hx))⟩

/-- How many keys the list holds. -/
def kn (P D : List (List UInt8)) : List (List UInt8) := if D.length ≤ 8 then P ++ D else P

theorem St.row {w : World} {base cb : Nat} {P D : List (List UInt8)} {v : Value} {m : Option Nat} (h : St w base cb P D v m) : KeyRow w base v (kn P D) := by
  obtain ⟨_, _, ⟨h1, _, h2⟩ | ⟨h1, h2, _⟩⟩ := h
  · rw [kn, if_pos h1]; exact h2
  · rw [kn, if_neg (by omega)]; exact h2
theorem kn_small {P D : List (List UInt8)} (hP : Small P) (hPl : P.length ≤ 4096) (hD : Small D) : Small (kn P D) := by
  unfold kn
  split
  · exact ⟨by simp; omega, fun x hx => (List.mem_append.1 hx).elim (hP.2 x) (hD.2 x)⟩
  · exact hP

theorem KeyRow.carry {w w' : World} {base : Nat} {v : Value} {ks : List (List UInt8)} (h : KeyRow w base v ks) (hr : ∀ g, v.ownBlock = some g → w'.heap[g]? = w.heap[g]?)
    (h5 : ∀ (b : Nat) (c : Array Value), w.heap[b]? = some (.cells c 5 (0, 0)) → w'.heap[b]? = some (.cells c 5 (0, 0))) (hsz : w.heap.size ≤ w'.heap.size) : KeyRow w' base v ks := by
  obtain ⟨vals, ⟨h1, h2⟩, h3⟩ := h
  refine ⟨vals, ⟨h1, ?_⟩, fun i hi => (h3 i hi).kept hsz h5⟩
  rcases h2 with h2 | ⟨g, cap, cur, hv, hb, hg, r⟩
  · exact .inl h2
  · exact .inr ⟨g, cap, cur, hv, hb, (hr g (by rw [hv]; rfl)).trans hg, r⟩

theorem St.carry {w w' : World} {base cb : Nat} {P D : List (List UInt8)} {v : Value} {m : Option Nat} (h : St w base cb P D v m) (hcb : w'.heap[cb]? = w.heap[cb]?) (hr : ∀ g, v.ownBlock = some g → w'.heap[g]? = w.heap[g]?)
    (hm : ∀ g, m = some g → w'.heap[g]? = w.heap[g]?) (h5 : ∀ (b : Nat) (c : Array Value), w.heap[b]? = some (.cells c 5 (0, 0)) → w'.heap[b]? = some (.cells c 5 (0, 0))) (hsz : w.heap.size ≤ w'.heap.size) : St w' base cb P D v m := by
  obtain ⟨h1, h2, h3⟩ := h
  refine ⟨hcb.trans h1, Nat.le_trans h2 hsz, ?_⟩
  rcases h3 with ⟨a, b, c⟩ | ⟨a, b, mb, n, c, d, e⟩
  · exact .inl ⟨a, b, c.carry hr h5 hsz⟩
  · exact .inr ⟨a, b.carry hr h5 hsz, mb, n, c, d.kept (hm mb c), e⟩

theorem St.lts {w : World} {base cb : Nat} {P D : List (List UInt8)} {v : Value} {m : Option Nat} (h : St w base cb P D v m) : cb < w.heap.size ∧ (∀ g, v.ownBlock = some g → g < w.heap.size) ∧ ∀ g, m = some g → g < w.heap.size := by
  refine ⟨(Array.getElem?_eq_some_iff.1 h.1).1, fun g hg => ?_, fun g hg => ?_⟩
  · obtain ⟨vals, h1, _⟩ := h.row
    exact (h1.lt g hg).2
  · obtain ⟨_, _, ⟨_, h2, _⟩ | ⟨_, _, mb, n, h2, h3, _⟩⟩ := h
    · rw [h2] at hg; cases hg
    · rw [h2] at hg; cases hg; exact h3.lt

/-- The slice 'distinct': its first cells hold the first eight of D, read in the world W. -/
def DRow (W wr : World) (base db : Nat) (D : List (List UInt8)) : Prop :=
  ∃ dvals, wr.ownsRow base 29 1 (.slice (some ⟨db, 0, none⟩) (min D.length 8) 8) (min D.length 8) dvals ∧ ∀ j, j < min D.length 8 → Elt W (dvals.getD j undef) (D.getD j [])

/-- The relation of the law's loop. -/
structure Inv (P S : List (List UInt8)) (W wr : World) (cb db k : Nat) (v : Value) (m : Option Nat) : Prop where
  st : St wr W.heap.size cb P (DD S k) v m
  below : Below W.heap.size W wr
  row : DRow W wr W.heap.size db (DD S k)
  dc : db ≠ cb
  dv : some db ≠ v.ownBlock
  dm : some db ≠ m
  dlt : db < wr.heap.size

theorem DRow.lt {W wr : World} {base db : Nat} {D : List (List UInt8)} (h : DRow W wr base db D) : base ≤ db ∧ db < wr.heap.size := by
  obtain ⟨dvals, h, _⟩ := h
  exact h.lt db rfl
theorem DRow.kept {W wr w' : World} {base db : Nat} {D : List (List UInt8)} (h : DRow W wr base db D) (hb : w'.heap[db]? = wr.heap[db]?) : DRow W w' base db D := by
  obtain ⟨dvals, ⟨h1, h2⟩, h3⟩ := h
  refine ⟨dvals, ⟨h1, ?_⟩, h3⟩
  rcases h2 with h2 | ⟨g, cap, cur, hv, hb', hg, r⟩
  · exact .inl h2
  · have : g = db := by cases hv; rfl
    subst this
    exact .inr ⟨g, cap, cur, hv, hb', hb.trans hg, r⟩

/-- What the world is behind the clone and the call of addKey: all of the relation at k + 1 but for 'distinct', which still holds what it held. -/
structure Mid (P S : List (List UInt8)) (W w6 : World) (cb db k : Nat) (v' : Value) (m' : Option Nat) : Prop where
  st : St w6 W.heap.size cb P (DD S (k + 1)) v' m'
  below : Below W.heap.size W w6
  row : DRow W w6 W.heap.size db (DD S k)
  dc : db ≠ cb
  dv : some db ≠ v'.ownBlock
  dm : some db ≠ m'
  dlt : db < w6.heap.size

theorem St.cbge {w : World} {base cb : Nat} {P D : List (List UInt8)} {v : Value} {m : Option Nat} (h : St w base cb P D v m) : ∀ k, v.ownBlock = some k → base ≤ k := by
  obtain ⟨vals, h1, _⟩ := h.row
  intro k hk
  exact (h1.lt k hk).1

theorem Inv.step {P S : List (List UInt8)} {W wr w5 w6 : World} {cb db k : Nat} {v v' b : Value} {m : Option Nat} (h : Inv P S W wr cb db k v m) (hk : k < S.length) (hcb : W.heap.size ≤ cb) (hmb : ∀ x, m = some x → W.heap.size ≤ x)
    (hb5 : Below wr.heap.size wr w5) (hs : StepsTo w5 W.heap.size cb P (DD S k) v m (S.getD k []) v' b w6) :
    b = .bool (decide (S.getD k [] ∈ DD S k)) ∧ ∃ m', Mid P S W w6 cb db k v' m' ∧ (∀ x, m' = some x → W.heap.size ≤ x) := by
  obtain ⟨hbv, m', hst, ho, hv', hm'⟩ := hs
  have hWsz : W.heap.size ≤ wr.heap.size := h.below.size
  have h5sz := hb5.size
  refine ⟨hbv, m', ⟨?_, ?_, ?_, h.dc, ?_, ?_, ?_⟩, ?_⟩
  · rw [DD_succ S k hk]; exact hst
  · refine ⟨ho.os.trans (hb5.os.trans h.below.os), ho.tape.trans (hb5.tape.trans h.below.tape), ho.output.trans (hb5.output.trans h.below.output), by have := ho.size; omega, fun x hx => ?_⟩
    rw [ho.block x (by omega) (by omega) ?_ ?_, hb5.block x (by omega), h.below.block x hx]
    · intro e; have := h.st.cbge x e.symm; omega
    · intro e; have := hmb x e.symm; omega
  · refine h.row.kept ?_
    rw [ho.block db (by have := h.dlt; omega) h.dc h.dv h.dm, hb5.block db h.dlt]
  · rcases hv' with e | ⟨g, e, hg⟩
    · rw [e]; exact h.dv
    · rw [e]; intro e'; injection e' with e'; have := h.dlt; omega
  · rcases hm' with e | ⟨g, e, hg⟩
    · rw [e]; exact h.dm
    · rw [e]; intro e'; injection e' with e'; have := h.dlt; omega
  · have := ho.size; have := h.dlt; omega
  · intro x hx
    rcases hm' with e | ⟨g, e, hg⟩
    · exact hmb x (by rw [← e]; exact hx)
    · rw [e] at hx; injection hx with hx; omega

/-- The round's end where 'distinct' is as it was: the key came earlier, or there are eight already. -/
theorem Mid.same {P S : List (List UInt8)} {W w6 : World} {cb db k : Nat} {v' : Value} {m' : Option Nat} (h : Mid P S W w6 cb db k v' m') (hk : k < S.length) (hd : S.getD k [] ∈ DD S k ∨ 8 ≤ (DD S k).length) : Inv P S W w6 cb db (k + 1) v' m' := by
  refine ⟨h.st, h.below, ?_, h.dc, h.dv, h.dm, h.dlt⟩
  rw [DD_succ S k hk]
  by_cases hin : S.getD k [] ∈ DD S k
  · rw [nextD, if_pos hin]; exact h.row
  · rw [nextD, if_neg hin]
    have h8 : 8 ≤ (DD S k).length := by rcases hd with h | h; exact absurd h hin; exact h
    obtain ⟨dvals, h1, h2⟩ := h.row
    have e1 : min (DD S k ++ [S.getD k []]).length 8 = min (DD S k).length 8 := by simp; omega
    refine ⟨dvals, by rw [e1]; exact h1, fun j hj => ?_⟩
    rw [e1] at hj
    have := h2 j hj
    have e2 : (DD S k ++ [S.getD k []]).getD j [] = (DD S k).getD j [] := by simp only [List.getD, List.getElem?_append_left (show j < (DD S k).length by omega)]
    rw [e2]; exact this

/-- The round's end where the new key has been appended to 'distinct'. -/
theorem Mid.app {P S : List (List UInt8)} {W w6 w7 w8 : World} {cb db k : Nat} {v' x : Value} {m' : Option Nat} {dvals : List Value} (h : Mid P S W w6 cb db k v' m') (hk : k < S.length) (hn : S.getD k [] ∉ DD S k) (h8 : (DD S k).length < 8)
    (hd : ∀ j, j < min (DD S k).length 8 → Elt W (dvals.getD j undef) ((DD S k).getD j [])) (hdl : dvals.length = (DD S k).length) (hx : Elt W x (S.getD k []))
    (h7 : Below w6.heap.size w6 w7) (hown : w8.ownsRow W.heap.size 29 1 (.slice (some ⟨db, 0, none⟩) ((DD S k).length + 1) 8) ((DD S k).length + 1) (dvals ++ [x])) (hg : w7.grownBy w8 (some db)) :
    Inv P S W w8 cb db (k + 1) v' m' := by
  have hdlt := h.dlt
  have hs7 := h7.size
  have hst7 := h.st.below h7
  have hrow7 : w7.heap[db]? = w6.heap[db]? := h7.block db hdlt
  obtain ⟨hl1, hl2, hl3⟩ := hst7.lts
  have hdb29 : ∃ c, w7.heap[db]? = some (.cells c 29 (0, 0)) := by
    obtain ⟨dv, ⟨_, h2⟩, _⟩ := h.row
    rcases h2 with ⟨h2, _⟩ | ⟨g, cap, cur, hv, hb', hg, r⟩
    · cases h2
    · cases hv; exact ⟨cur, hrow7.trans hg⟩
  obtain ⟨cdb, hcdb⟩ := hdb29
  have hWsz : W.heap.size ≤ w6.heap.size := h.below.size
  refine ⟨?_, ?_, ?_, h.dc, h.dv, h.dm, by have := hg.size; omega⟩
  · refine hst7.carry (hg.block cb hl1 (by simp; exact fun e => h.dc e.symm)) (fun g hgg => hg.block g (hl2 g hgg) (fun e => h.dv (by rw [hgg]; exact e.symm))) (fun g hgg => hg.block g (hl3 g hgg) (fun e => h.dm (by rw [hgg]; exact e.symm))) (fun b c hb => ?_) hg.size
    refine (hg.block b (Array.getElem?_eq_some_iff.1 hb).1 ?_).trans hb
    intro e
    injection e with e
    subst e
    rw [hcdb] at hb
    injection hb with hb
    injection hb with _ h2 _
    cases h2
  · refine ⟨hg.os.trans (h7.os.trans h.below.os), hg.tape.trans (h7.tape.trans h.below.tape), hg.output.trans (h7.output.trans h.below.output), by have := hg.size; omega, fun x hx => ?_⟩
    have hge := h.row.lt.1
    rw [hg.block x (by omega) (by simp; omega), h7.block x (by omega), h.below.block x hx]
  · rw [DD_succ S k hk, nextD, if_neg hn]
    have e1 : min (DD S k ++ [S.getD k []]).length 8 = (DD S k).length + 1 := by simp; omega
    refine ⟨dvals ++ [x], by rw [e1]; exact hown, fun j hj => ?_⟩
    rw [e1] at hj
    by_cases hjl : j < (DD S k).length
    · have e2 : (DD S k ++ [S.getD k []]).getD j [] = (DD S k).getD j [] := by simp only [List.getD, List.getElem?_append_left hjl]
      have e3 : (dvals ++ [x]).getD j undef = dvals.getD j undef := by simp only [List.getD, List.getElem?_append_left (show j < dvals.length by omega)]
      rw [e2, e3]
      exact hd j (by omega)
    · have hje : j = (DD S k).length := by omega
      have e2 : (DD S k ++ [S.getD k []]).getD j [] = S.getD k [] := by rw [hje]; simp [List.getD]
      have e3 : (dvals ++ [x]).getD j undef = x := by rw [hje, ← hdl]; simp [List.getD]
      rw [e2, e3]
      exact hx
end Go.Proofs.Qxb6601109a
