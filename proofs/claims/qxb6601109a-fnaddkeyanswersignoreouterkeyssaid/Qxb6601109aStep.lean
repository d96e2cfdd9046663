import Derived.Test.Qxb6601109aMake
namespace Go.Proofs.Qxb6601109a
open Go.RowKit Go.Maps

/-- ZZAddKey hands on what addKey answers. -/
theorem zzAdd {c key keys : Value} {w : World} {Q : Value → Value → World → Prop} (h : Calls Try.prog 20 #[c, key, keys] w fun e w' => ∃ v b, e = .returned (.tuple #[v, b]) ∧ Q v b w') :
    Calls Try.prog 12 #[c, key, keys] w fun e w' => ∃ v b, e = .returned (.tuple #[v, b]) ∧ Q v b w' := by
  have H : Hid (Calls Try.prog 20 #[c, key, keys] w fun e w' => ∃ v b, e = .returned (.tuple #[v, b]) ∧ Q v b w') := h
  clear h
  go_enter Try.func12, Try.ntmps12
  go_wp2_with (go_at_call 20; refine H.out.mono ?_; rintro e w1 ⟨v, b, rfl, hq⟩)
  go_ret2
  exact ⟨v, b, rfl, hq⟩

/-- The list of keys: a row of the call's own whose elements hold 'ks'. -/
def KeyRow (w : World) (base : Nat) (v : Value) (ks : List (List UInt8)) : Prop :=
  ∃ vals, w.ownsRow base 29 1 v ks.length vals ∧ ∀ i, i < ks.length → Own w base w.heap.size (vals.getD i undef) (ks.getD i [])

def Small (ks : List (List UInt8)) : Prop := ks.length ≤ 8192 ∧ ∀ x ∈ ks, x.length ≤ 1048576

theorem Small.at {ks : List (List UInt8)} (h : Small ks) {i : Nat} (hi : i < ks.length) : (ks.getD i []).length ≤ 1048576 := by
  rw [List.getD, List.getElem?_eq_getElem hi, Option.getD_some]
  exact h.2 _ (List.getElem_mem hi)

theorem Own.kept {w w' : World} {lo hi hi' : Nat} {v : Value} {xs : List UInt8} (h : Own w lo hi v xs) (hh : hi ≤ hi') (hk : ∀ (b : Nat) (c : Array Value), w.heap[b]? = some (.cells c 5 (0, 0)) → w'.heap[b]? = some (.cells c 5 (0, 0))) : Own w' lo hi' v xs := by
  rcases h with h | ⟨b, hb1, hb2, hv, hh'⟩
  · exact .inl h
  · exact .inr ⟨b, hb1, by omega, hv, hk _ _ hh'⟩

theorem KeyRow.shape {w : World} {base : Nat} {v : Value} {ks : List (List UInt8)} (h : KeyRow w base v ks) (hs : Small ks) : ∃ a cap, v = .slice a ks.length cap ∧ ks.length ≤ cap ∧ ∀ w', Kept w w' → LS w' a ks := by
  obtain ⟨vals, ⟨h1, h2⟩, h3⟩ := h
  have hkl := hs.1
  rcases h2 with ⟨rfl, h0⟩ | ⟨g, cap, cur, rfl, hb, hg, hn, hm, hsz, htk⟩
  · have : ks = [] := List.eq_nil_of_length_eq_zero h0
    subst this
    exact ⟨none, 0, rfl, by simp, fun w' _ => ⟨by simp, .inl rfl⟩⟩
  · refine ⟨_, cap, rfl, hn, fun w' hk => ⟨by omega, .inr ⟨g, 0, rfl, fun i hi => ⟨vals.getD i undef, ?_, ((h3 i hi).kept (Nat.le_refl _) (fun b c hb => hk b c 5 (by decide) hb)).elt (by have := hs.at hi; omega)⟩⟩⟩⟩
    have hvi : i < vals.length := by omega
    have e1 : vals[i]? = cur.toList[i]? := by rw [← htk, List.getElem?_take_of_lt (by omega)]
    rw [List.getElem?_eq_getElem hvi] at e1
    simp [World.cell?, hk g cur 29 (by decide) hg, List.getD, List.getElem?_eq_getElem hvi]
    simpa using e1.symm

theorem KeyRow.take {w : World} {base : Nat} {a : Option Addr} {l cap : Nat} {P D : List (List UInt8)} (h : KeyRow w base (.slice a l cap) (P ++ D)) (hne : 0 < D.length) : KeyRow w base (.slice a P.length cap) P := by
  obtain ⟨vals, ⟨h1, h2⟩, h3⟩ := h
  have hlen : (P ++ D).length = P.length + D.length := List.length_append
  rcases h2 with ⟨_, h0⟩ | ⟨g, cap', cur, hv, hb, hg, hn, hm, hsz, htk⟩
  · omega
  · cases hv
    have hvl : vals.length = P.length + D.length := by omega
    refine ⟨vals.take P.length, ⟨by simp; omega, .inr ⟨g, cap, cur, rfl, hb, hg, by omega, hm, hsz, ?_⟩⟩, fun i hi => ?_⟩
    · rw [← htk, List.take_take]; congr 1; omega
    · have := h3 i (by omega)
      rw [List.getD, List.getElem?_take_of_lt hi]
      simpa [List.getD, List.getElem?_append_left hi] using this

theorem own_ne {w : World} {base : Nat} {v : Value} {n : Nat} {vals : List Value} (h : w.ownsRow base 29 1 v n vals) {b : Nat} {c : Array Value} {t : TypeId} {fz : Nat × Nat} (hb : w.heap[b]? = some (.cells c t fz)) (ht : t ≠ 29) : some b ≠ v.ownBlock := by
  rcases h.2 with ⟨rfl, _⟩ | ⟨g, cap, cur, rfl, _, hg, _⟩
  · simp [Value.ownBlock]
  · intro e
    simp [Value.ownBlock] at e
    subst e
    rw [hb] at hg
    injection hg with hg
    injection hg with _ h2 _
    exact ht h2

theorem KeyRow.kept {w w' : World} {base : Nat} {v : Value} {ks : List (List UInt8)} (h : KeyRow w base v ks) (hsz : w.heap.size ≤ w'.heap.size) (hk : Kept w w') : KeyRow w' base v ks := by
  obtain ⟨vals, ⟨h1, h2⟩, h3⟩ := h
  refine ⟨vals, ⟨h1, ?_⟩, fun i hi => (h3 i hi).kept hsz (fun b c hb => hk b c 5 (by decide) hb)⟩
  rcases h2 with h2 | ⟨g, cap, cur, hv, hb, hg, r⟩
  · exact .inl h2
  · exact .inr ⟨g, cap, cur, hv, hb, hk g cur 29 (by decide) hg, r⟩

/-- What the container and its list of keys stand for: the outer keys 'P', the object's own 'D' (each once). -/
def St (w : World) (base cb : Nat) (P D : List (List UInt8)) (v : Value) (m : Option Nat) : Prop :=
  w.heap[cb]? = some (.cells (ctr P.length (.map m)) 38 (0, 0)) ∧ base ≤ w.heap.size ∧
  ((D.length ≤ 8 ∧ m = none ∧ KeyRow w base v (P ++ D)) ∨ (8 < D.length ∧ KeyRow w base v P ∧ ∃ mb n, m = some mb ∧ SetOf w mb n D ∧ n ≤ 65536 + D.length))

/-- Only the container, the row 'r' and the set 'm' may have turned. -/
structure Others (w w' : World) (cb : Nat) (r m : Option Nat) : Prop where
  os : w'.os = w.os
  tape : w'.tape = w.tape
  output : w'.output = w.output
  size : w.heap.size ≤ w'.heap.size
  block : ∀ b, b < w.heap.size → b ≠ cb → some b ≠ r → some b ≠ m → w'.heap[b]? = w.heap[b]?

theorem Others.of_below {w w' : World} {cb : Nat} {r m : Option Nat} (h : Below w.heap.size w w') : Others w w' cb r m := ⟨h.os, h.tape, h.output, h.size, fun b hb _ _ _ => h.block b hb⟩

/-- The next list of the object's own keys. -/
def nextD (D : List (List UInt8)) (key : List UInt8) : List (List UInt8) := if key ∈ D then D else D ++ [key]

def StepsTo (w : World) (base cb : Nat) (P D : List (List UInt8)) (v : Value) (m : Option Nat) (key : List UInt8) (v' b : Value) (w' : World) : Prop :=
  b = .bool (decide (key ∈ D)) ∧ ∃ m', St w' base cb P (nextD D key) v' m' ∧ Others w w' cb v.ownBlock m ∧
    (v'.ownBlock = v.ownBlock ∨ ∃ g, v'.ownBlock = some g ∧ w.heap.size ≤ g) ∧ (m' = m ∨ ∃ g, m' = some g ∧ w.heap.size ≤ g)

theorem kept_alloc_same {w : World} (o : Obj) : Below w.heap.size w (w.alloc o) := (Below.refl _ _).alloc (Nat.le_refl _) _

theorem below_kept {w w' : World} (h : Below w.heap.size w w') : Kept w w' := fun b _ _ _ hb => (h.block b (Array.getElem?_eq_some_iff.1 hb).1).trans hb

theorem SetOf.below {w w' : World} {mb n : Nat} {D : List (List UInt8)} (h : SetOf w mb n D) (hb : Below w.heap.size w w') : SetOf w' mb n D := h.kept (hb.block _ h.lt)

theorem St.below {w w' : World} {base cb : Nat} {P D : List (List UInt8)} {v : Value} {m : Option Nat} (h : St w base cb P D v m) (hb : Below w.heap.size w w') : St w' base cb P D v m := by
  obtain ⟨h1, h2, h3⟩ := h
  refine ⟨(hb.block _ (Array.getElem?_eq_some_iff.1 h1).1).trans h1, Nat.le_trans h2 hb.size, ?_⟩
  rcases h3 with ⟨a, b, c⟩ | ⟨a, b, mb, n, c, d, e⟩
  · exact .inl ⟨a, b, c.kept hb.size (below_kept hb)⟩
  · exact .inr ⟨a, b.kept hb.size (below_kept hb), mb, n, c, d.below hb, e⟩

theorem step {w : World} {base cb : Nat} {P D : List (List UInt8)} {v : Value} {m : Option Nat} {key : List UInt8} {kv : Value} (hst : St w base cb P D v m) (hk : Own w base w.heap.size kv key)
    (hP : Small P) (hPl : P.length ≤ 4096) (hD : Small D) (hDl : D.length ≤ 4096) (hkl : key.length ≤ 1048576) :
    Calls Try.prog 12 #[.pointer (some ⟨cb, 0, none⟩), kv, v] w fun e w' => ∃ v' b, e = .returned (.tuple #[v', b]) ∧ StepsTo w base cb P D v m key v' b w' := by
  apply zzAdd
  have hPD : Small (P ++ D) := ⟨by simp; omega, fun x hx => (List.mem_append.1 hx).elim (hP.2 x) (hD.2 x)⟩
  obtain ⟨ak, ck, rfl⟩ := hk.shape
  have hbs : ∀ w', Kept w w' → BS w' ak key := by
    intro w' hkw
    obtain ⟨a', c', hv, hb⟩ := (hk.kept (hi' := w.heap.size) (Nat.le_refl _) (fun b c hb => hkw b c 5 (by decide) hb)).elt (by omega)
    cases hv
    exact hb
  have hbs0 := hbs w (Kept.refl w)
  have hst0 := hst
  obtain ⟨hcb, hbase, hcase⟩ := hst
  rcases hcase with ⟨h8, rfl, hrow⟩ | ⟨h8, hrow, mb, n, rfl, hset, hn⟩
  · obtain ⟨a, cap, rfl, hcap, hls'⟩ := hrow.shape hPD
    have hls := hls' w (Kept.refl w)
    have hlen : (P ++ D).length = P.length + D.length := List.length_append
    rw [hlen] at hcap ⊢
    by_cases hin : key ∈ D
    · refine (addKey_dup cb P D key a ak cap ck w hcb hls hcap hbs0 hin).mono ?_
      rintro e w' ⟨rfl, rfl⟩
      have hbel : Below w.heap.size w (w.alloc (.cells #[.slice ak key.length ck] 29)) := kept_alloc_same _
      refine ⟨_, _, rfl, by simp [hin], none, ?_, Others.of_below hbel, .inl (by rfl), .inl rfl⟩
      rw [nextD, if_pos hin, ← hlen]
      exact hst0.below hbel
    · by_cases h7 : D.length < 8
      · obtain ⟨vals, hown, hels⟩ := hrow
        have hown' := hown
        rw [hlen] at hown'
        refine (addKey_app cb base P D key a ak cap ck vals w hcb hls hcap hbs0 hin h7 hPl hown' hbase).mono ?_
        rintro e w' ⟨v', rfl, hown2, hg, hloc⟩
        rw [← hlen] at hg hloc
        have hk5 : ∀ (b : Nat) (c : Array Value), w.heap[b]? = some (.cells c 5 (0, 0)) → w'.heap[b]? = some (.cells c 5 (0, 0)) := fun b c hb => (hg.block b (Array.getElem?_eq_some_iff.1 hb).1 (own_ne hown hb (by decide))).trans hb
        have hvl : vals.length = (P ++ D).length := by have := hown.1; omega
        refine ⟨_, _, rfl, by simp [hin], none, ⟨?_, Nat.le_trans hbase hg.size, .inl ⟨?_, rfl, ?_⟩⟩, ⟨hg.os, hg.tape, hg.output, hg.size, fun b hb _ hr _ => hg.block b hb (by rw [← hlen] at hr; exact hr)⟩, by rw [← hlen]; exact hloc, .inl rfl⟩
        · exact (hg.block cb (Array.getElem?_eq_some_iff.1 hcb).1 (own_ne hown hcb (by decide))).trans hcb
        · rw [nextD, if_neg hin]; simp; omega
        · rw [nextD, if_neg hin]
          refine ⟨vals ++ [.slice ak key.length ck], ?_, fun i hi => ?_⟩
          · rw [show (P ++ (D ++ [key])).length = P.length + D.length + 1 by simp; omega]
            exact hown2
          · by_cases hil : i < (P ++ D).length
            · have e1 : (vals ++ [Value.slice ak key.length ck]).getD i undef = vals.getD i undef := by simp [List.getD, List.getElem?_append_left (show i < vals.length by omega)]
              have e2 : (P ++ (D ++ [key])).getD i [] = (P ++ D).getD i [] := by rw [← List.append_assoc]; simp only [List.getD, List.getElem?_append_left hil]
              rw [e1, e2]
              exact (hels i hil).kept hg.size hk5
            · have hie : i = (P ++ D).length := by simp at hi hil ⊢; omega
              have e1 : (vals ++ [Value.slice ak key.length ck]).getD i undef = .slice ak key.length ck := by simp [List.getD, hie, ← hvl]
              have e2 : (P ++ (D ++ [key])).getD i [] = key := by rw [← List.append_assoc, hie]; simp [List.getD]
              rw [e1, e2]
              exact hk.kept hg.size hk5
      · have hlt := (Array.getElem?_eq_some_iff.1 hcb).1
        refine (addKey_make cb P D key a ak cap ck w hcb hls' hcap hbs hkl (fun i hi => hD.at hi) hin (by omega) hDl).mono ?_
        rintro e w' ⟨mb, n, rfl, hcb', hset', hn', hmb, hg⟩
        have hkw : Kept w w' := Kept.of_but hcb (fun b hb hne => hg.block b hb (by simpa using hne))
        refine ⟨_, _, rfl, by simp [hin], some mb, ⟨hcb', Nat.le_trans hbase hg.size, .inr ⟨?_, ?_, mb, n, rfl, ?_, by omega⟩⟩, ⟨hg.os, hg.tape, hg.output, hg.size, fun b hb hne _ _ => hg.block b hb (by simpa using hne)⟩, .inl (by cases a <;> rfl), .inr ⟨mb, rfl, hmb⟩⟩
        · rw [nextD, if_neg hin]; simp; omega
        · exact (hrow.take (by omega)).kept hg.size hkw
        · rw [nextD, if_neg hin]; exact hset'
  · obtain ⟨a, cap, rfl, hcap, hls'⟩ := hrow.shape hP
    by_cases hin : key ∈ D
    · refine (addKey_in cb mb n P.length D key ak ck a P.length cap w hcb hset hkl hbs0 hin).mono ?_
      rintro e w' ⟨rfl, hbel⟩
      refine ⟨_, _, rfl, by simp [hin], some mb, ?_, Others.of_below hbel, .inl rfl, .inl rfl⟩
      rw [nextD, if_pos hin]
      exact hst0.below hbel
    · refine (addKey_put cb mb n P.length D key ak ck a P.length cap w hcb hset (by omega) hkl hbs0 hin).mono ?_
      rintro e w' ⟨rfl, hset', hg⟩
      have hkw : Kept w w' := (Kept.refl w).grown hset hg
      have hne := hset.notCells hcb
      refine ⟨_, _, rfl, by simp [hin], some mb, ⟨?_, Nat.le_trans hbase hg.size, .inr ⟨?_, hrow.kept hg.size hkw, mb, n + 1, rfl, ?_, ?_⟩⟩, ⟨hg.os, hg.tape, hg.output, hg.size, fun b hb _ _ hm => hg.block b hb hm⟩, .inl rfl, .inl rfl⟩
      · exact (hg.block cb (Array.getElem?_eq_some_iff.1 hcb).1 (by simp; omega)).trans hcb
      · rw [nextD, if_neg hin]; simp; omega
      · rw [nextD, if_neg hin]; exact hset'
      · rw [nextD, if_neg hin]; simp; omega
end Go.Proofs.Qxb6601109a
