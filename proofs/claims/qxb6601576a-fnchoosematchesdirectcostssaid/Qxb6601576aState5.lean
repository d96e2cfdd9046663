import Derived.Test.Qxb6601576aLane5
namespace Go.Proofs.Qxb6601576a
open Go.RowKit

/-- What choose is handed. -/
structure In (lo hi : Nat) (w : World) (fb sb : Nat → Nat) (sa : Nat → Option Addr) (sc n : Nat → Nat) (L : Nat → Nat → Nat → Nat) (G : Nat) (S : Nat → Nat → Nat) (bg : Nat) (ea ta : Option Addr) (nE cE nT cT : Nat) (E st : Nat → Nat) (T : Nat → Int) (fp : Option Nat) (A : Nat → Int) : Prop where
  lohi : lo ≤ hi
  hiw : hi ≤ w.heap.size
  fbn : ∀ f, f < 2 → w.cell? ⟨fb f, 0, none⟩ = some (.int .i64 (n f : Nat))
  fbl : ∀ f, f < 2 → LensAt w (fb f) 1 (L f)
  fbs : ∀ f, f < 2 → w.cell? ⟨fb f, 1549, none⟩ = some (.slice (sa f) G (sc f))
  fbh : ∀ f, f < 2 → hi ≤ fb f
  sel : ∀ f, f < 2 → 0 < G → sa f = some ⟨sb f, 0, none⟩ ∧ lo ≤ sb f ∧ sb f < hi ∧ w.rowIs (sb f) 5 G (fun i => .int .u8 (S f i : Nat))
  sne : 0 < G → sb 0 ≠ sb 1
  bgh : hi ≤ bg
  bg0 : w.cell? ⟨bg, 0, none⟩ = some (.slice ea nE cE)
  bg1 : w.cell? ⟨bg, 1, none⟩ = some (.slice ta nT cT)
  ent : CB lo w ea nE (fun i => .int .u16 (E i : Nat))
  sta : CB lo w ta nT (fun i => .int .i32 (T i))
  grp : Grp E st T G nE nT
  hea : (∃ b o, ea = some ⟨b, o, none⟩) ∨ ea = none ∧ cE = 0
  hcE : nE ≤ cE
  hn1 : ∀ f, f < 2 → 1 ≤ n f
  hn6 : ∀ f, f < 2 → n f ≤ 6
  hL : ∀ f t s, f < 2 → t < n f → s < 258 → L f t s ≤ 100
  fit : ∀ bf, fp = some bf → lo ≤ bf ∧ bf < hi ∧ w.rowIs bf 34 3096 (fun p => .int .i64 (A p)) ∧ (∀ p, p < 3096 → wrap64 (A p) = A p) ∧ (∀ f g, f < 2 → g < G → S f g < 6) ∧ (0 < G → bf ≠ sb 0 ∧ bf ≠ sb 1)

/-- While the words are packed. -/
structure Pk (lo hi : Nat) (w wr : World) (fb : Nat → Nat) (Z : Array Value) (nm : Nat → Nat) (pk : Nat → Nat → Nat) : Prop where
  mid : Mid lo hi w wr
  fits : wr.heap[w.heap.size]? = some (.cells (fv fb) 64 (0, 0))
  res : wr.heap[w.heap.size + 1]? = some (.cells Z 43 (0, 0))
  pack : wr.rowIs (w.heap.size + 2) 71 774 (fun p => .int .u64 (pk (p / 3) (p % 3) : Nat))
  nums : wr.rowIs (w.heap.size + 3) 70 3 (fun k => .int .u64 (nm k : Nat))

theorem Pk.congr {lo hi : Nat} {w wr : World} {fb : Nat → Nat} {Z : Array Value} {nm nm' : Nat → Nat} {pk pk' : Nat → Nat → Nat} (h : Pk lo hi w wr fb Z nm pk) (h1 : ∀ k, k < 3 → nm k = nm' k) (h2 : ∀ s k, s < 258 → k < 3 → pk s k = pk' s k) : Pk lo hi w wr fb Z nm' pk' :=
  ⟨h.mid, h.fits, h.res, h.pack.congr (fun p hp => by rw [h2 _ _ (by omega) (by omega)]), h.nums.congr (fun k hk => by rw [h1 k hk])⟩

/-- A word is turned. -/
theorem Pk.setNum {lo hi : Nat} {w wr : World} {fb : Nat → Nat} {Z : Array Value} {nm : Nat → Nat} {pk : Nat → Nat → Nat} (h : Pk lo hi w wr fb Z nm pk) (hl : lo ≤ w.heap.size) (k v : Nat) :
    Pk lo hi w (wr.setCell ⟨w.heap.size + 3, k, none⟩ (.int .u64 (v : Nat))) fb Z (fun i => if i = k then v else nm i) pk := by
  refine ⟨h.mid.set (by show lo ≤ w.heap.size + 3; omega) (.inr (by show w.heap.size ≤ w.heap.size + 3; omega)) _, ?_, ?_, h.pack.setOther (by show w.heap.size + 2 ≠ w.heap.size + 3; omega) _, (h.nums.set _ _).congr (fun i _ => ?_)⟩
  · exact (Below.heap_setCell _ _ _ _ (by show w.heap.size ≠ w.heap.size + 3; omega)).trans h.fits
  · exact (Below.heap_setCell _ _ _ _ (by show w.heap.size + 1 ≠ w.heap.size + 3; omega)).trans h.res
  · by_cases e : i = k
    · rw [if_pos e, if_pos e]
    · rw [if_neg e, if_neg e]
theorem Pk.setPack {lo hi : Nat} {w wr : World} {fb : Nat → Nat} {Z : Array Value} {nm : Nat → Nat} {pk : Nat → Nat → Nat} (h : Pk lo hi w wr fb Z nm pk) (hl : lo ≤ w.heap.size) (s k v : Nat) (hk : k < 3) :
    Pk lo hi w (wr.setCell ⟨w.heap.size + 2, s * 3 + k, none⟩ (.int .u64 (v : Nat))) fb Z nm (fun s' k' => if s' = s ∧ k' = k then v else pk s' k') := by
  refine ⟨h.mid.set (by show lo ≤ w.heap.size + 2; omega) (.inr (by show w.heap.size ≤ w.heap.size + 2; omega)) _, ?_, ?_, (h.pack.set _ _).congr (fun i _ => ?_), h.nums.setOther (by show w.heap.size + 3 ≠ w.heap.size + 2; omega) _⟩
  · exact (Below.heap_setCell _ _ _ _ (by show w.heap.size ≠ w.heap.size + 2; omega)).trans h.fits
  · exact (Below.heap_setCell _ _ _ _ (by show w.heap.size + 1 ≠ w.heap.size + 2; omega)).trans h.res
  · by_cases e : i = s * 3 + k
    · rw [if_pos e, if_pos (by omega)]
    · rw [if_neg e, if_neg (by omega)]
theorem Pk.drew {lo hi : Nat} {w wr : World} {fb : Nat → Nat} {Z : Array Value} {nm : Nat → Nat} {pk : Nat → Nat → Nat} (h : Pk lo hi w wr fb Z nm pk) : Pk lo hi w wr.drew fb Z nm pk := ⟨h.mid.drew, h.fits, h.res, h.pack, h.nums⟩

/-- While the groups choose. -/
structure Gs (lo hi : Nat) (w wr : World) (fb sb : Nat → Nat) (bb G : Nat) (fp : Option Nat) (pk : Nat → Nat → Nat) (B : Nat → Nat) (Sl : Nat → Nat → Nat) (F : Nat → Int) : Prop where
  pk : Pk lo hi w wr fb #[.int .i64 0, .int .i64 0] num pk
  bits : wr.rowIs bb 43 2 (fun f => .int .i64 (B f : Nat))
  sel : ∀ f, f < 2 → 0 < G → wr.rowIs (sb f) 5 G (fun i => .int .u8 (Sl f i : Nat))
  fit : ∀ bf, fp = some bf → wr.rowIs bf 34 3096 (fun p => .int .i64 (F p))

/-- What lies apart. -/
structure Apart (lo hi : Nat) (w : World) (sb : Nat → Nat) (bb G : Nat) (fp : Option Nat) : Prop where
  lohi : lo ≤ hi
  hiw : hi ≤ w.heap.size
  bb : w.heap.size + 3 < bb
  sel : ∀ f, f < 2 → 0 < G → lo ≤ sb f ∧ sb f < hi
  sne : 0 < G → sb 0 ≠ sb 1
  fit : ∀ bf, fp = some bf → lo ≤ bf ∧ bf < hi ∧ (0 < G → bf ≠ sb 0 ∧ bf ≠ sb 1)

theorem Pk.setOther {lo hi : Nat} {w wr : World} {fb : Nat → Nat} {Z : Array Value} {nm : Nat → Nat} {pk : Nat → Nat → Nat} (h : Pk lo hi w wr fb Z nm pk) {p : Addr} (h1 : lo ≤ p.block) (h2 : p.block < hi ∧ hi ≤ w.heap.size ∨ w.heap.size + 3 < p.block) (v : Value) : Pk lo hi w (wr.setCell p v) fb Z nm pk := by
  refine ⟨h.mid.set h1 (by omega) _, ?_, ?_, h.pack.setOther (by omega) _, h.nums.setOther (by omega) _⟩
  · exact (Below.heap_setCell _ _ _ _ (by omega)).trans h.fits
  · exact (Below.heap_setCell _ _ _ _ (by omega)).trans h.res
theorem Pk.alloc {lo hi : Nat} {w wr : World} {fb : Nat → Nat} {Z : Array Value} {nm : Nat → Nat} {pk : Nat → Nat → Nat} (h : Pk lo hi w wr fb Z nm pk) (hl : lo ≤ w.heap.size) (o : Obj) : Pk lo hi w (wr.alloc o) fb Z nm pk := by
  have hlt := h.nums.lt
  refine ⟨h.mid.alloc hl _, ?_, ?_, h.pack.alloc _, h.nums.alloc _⟩
  · exact (Below.heap_alloc _ _ _ (by omega)).trans h.fits
  · exact (Below.heap_alloc _ _ _ (by omega)).trans h.res
theorem Pk.drawn {lo hi : Nat} {w wr wr' : World} {fb : Nat → Nat} {Z : Array Value} {nm : Nat → Nat} {pk : Nat → Nat → Nat} (h : Pk lo hi w wr fb Z nm pk) (k : Drawn wr wr') : Pk lo hi w wr' fb Z nm pk := by
  have hm := h.mid.drawn k
  obtain ⟨q, rfl⟩ := k
  exact ⟨hm, h.fits, h.res, h.pack, h.nums⟩

section
variable {lo hi : Nat} {w wr : World} {fb sb : Nat → Nat} {bb G : Nat} {fp : Option Nat} {pk : Nat → Nat → Nat} {B : Nat → Nat} {Sl : Nat → Nat → Nat} {F : Nat → Int}
theorem Gs.congr {B' : Nat → Nat} {Sl' : Nat → Nat → Nat} {F' : Nat → Int} (h : Gs lo hi w wr fb sb bb G fp pk B Sl F) (h1 : ∀ f, f < 2 → B f = B' f) (h2 : ∀ f i, f < 2 → i < G → Sl f i = Sl' f i) (h3 : ∀ bf, fp = some bf → ∀ p, p < 3096 → F p = F' p) : Gs lo hi w wr fb sb bb G fp pk B' Sl' F' :=
  ⟨h.pk, h.bits.congr (fun f hf => by rw [h1 f hf]), fun f hf hG => (h.sel f hf hG).congr (fun i hi => by rw [h2 f i hf hi]), fun bf hb => (h.fit bf hb).congr (fun p hp => by rw [h3 bf hb p hp])⟩
theorem Gs.drawn {wr' : World} (h : Gs lo hi w wr fb sb bb G fp pk B Sl F) (k : Drawn wr wr') : Gs lo hi w wr' fb sb bb G fp pk B Sl F := by
  have hp := h.pk.drawn k
  obtain ⟨q, rfl⟩ := k
  exact ⟨hp, h.bits, h.sel, h.fit⟩
theorem Gs.drew (h : Gs lo hi w wr fb sb bb G fp pk B Sl F) : Gs lo hi w wr.drew fb sb bb G fp pk B Sl F := ⟨h.pk.drew, h.bits, h.sel, h.fit⟩
theorem Gs.alloc (h : Gs lo hi w wr fb sb bb G fp pk B Sl F) (a : Apart lo hi w sb bb G fp) (o : Obj) : Gs lo hi w (wr.alloc o) fb sb bb G fp pk B Sl F :=
  ⟨h.pk.alloc (Nat.le_trans a.lohi a.hiw) _, h.bits.alloc _, fun f hf hG => (h.sel f hf hG).alloc _, fun bf hb => (h.fit bf hb).alloc _⟩
/-- A cell of a block of this round's. -/
theorem Gs.setNew (h : Gs lo hi w wr fb sb bb G fp pk B Sl F) (a : Apart lo hi w sb bb G fp) {p : Addr} (hp : bb < p.block) (v : Value) : Gs lo hi w (wr.setCell p v) fb sb bb G fp pk B Sl F := by
  have := a.bb
  have := a.lohi
  have := a.hiw
  refine ⟨h.pk.setOther (by omega) (.inr (by omega)) v, h.bits.setOther (by omega) v, fun f hf hG => (h.sel f hf hG).setOther (by have := a.sel f hf hG; omega) v, fun bf hb => (h.fit bf hb).setOther (by have := a.fit bf hb; omega) v⟩
theorem Gs.setBits (h : Gs lo hi w wr fb sb bb G fp pk B Sl F) (a : Apart lo hi w sb bb G fp) (f v : Nat) : Gs lo hi w (wr.setCell ⟨bb, f, none⟩ (.int .i64 (v : Nat))) fb sb bb G fp pk (fun i => if i = f then v else B i) Sl F := by
  have := a.bb
  have := a.lohi
  have := a.hiw
  refine ⟨h.pk.setOther (by show lo ≤ bb; omega) (.inr (by show _ < bb; omega)) _, (h.bits.set _ _).congr (fun i _ => ?_), fun f hf hG => (h.sel f hf hG).setOther (by have := a.sel f hf hG; show sb f ≠ bb; omega) _, fun bf hb => (h.fit bf hb).setOther (by have := a.fit bf hb; show bf ≠ bb; omega) _⟩
  by_cases e : i = f
  · rw [if_pos e, if_pos e]
  · rw [if_neg e, if_neg e]
theorem Gs.setSel (h : Gs lo hi w wr fb sb bb G fp pk B Sl F) (a : Apart lo hi w sb bb G fp) (f g v : Nat) (hf : f < 2) (hG : 0 < G) : Gs lo hi w (wr.setCell ⟨sb f, g, none⟩ (.int .u8 (v : Nat))) fb sb bb G fp pk B (fun f' i => if f' = f ∧ i = g then v else Sl f' i) F := by
  have := a.bb
  have := a.lohi
  have := a.hiw
  have hs := a.sel f hf hG
  have hne := a.sne hG
  refine ⟨h.pk.setOther hs.1 (.inl ⟨hs.2, a.hiw⟩) _, h.bits.setOther (by show bb ≠ sb f; omega) _, fun f' hf' _ => ?_, fun bf hb => (h.fit bf hb).setOther ?_ _⟩
  · by_cases e : f' = f
    · subst e
      refine ((h.sel f' hf' hG).set _ _).congr (fun i _ => ?_)
      by_cases e : i = g
      · rw [if_pos e, if_pos ⟨rfl, e⟩]
      · rw [if_neg e, if_neg (fun h => e h.2)]
    · refine ((h.sel f' hf' hG).setOther ?_ _).congr (fun i _ => ?_)
      · show sb f' ≠ sb f
        obtain ⟨rfl, rfl⟩ | ⟨rfl, rfl⟩ : f' = 0 ∧ f = 1 ∨ f' = 1 ∧ f = 0 := by omega
        · exact hne
        · exact fun h => hne h.symm
      · rw [if_neg (fun h => e h.1)]
  · show bf ≠ sb f
    have := (a.fit bf hb).2.2 hG
    obtain rfl | rfl : f = 0 ∨ f = 1 := by omega
    · exact this.1
    · exact this.2
theorem Gs.setFit (h : Gs lo hi w wr fb sb bb G fp pk B Sl F) (a : Apart lo hi w sb bb G fp) (bf q : Nat) (v : Int) (hb : fp = some bf) : Gs lo hi w (wr.setCell ⟨bf, q, none⟩ (.int .i64 v)) fb sb bb G fp pk B Sl (fun p => if p = q then v else F p) := by
  have := a.bb
  have := a.lohi
  have := a.hiw
  have hs := a.fit bf hb
  refine ⟨h.pk.setOther hs.1 (.inl ⟨hs.2.1, a.hiw⟩) _, h.bits.setOther (by show bb ≠ bf; omega) _, fun f hf hG => (h.sel f hf hG).setOther ?_ _, fun bf' hb' => ?_⟩
  · show sb f ≠ bf
    have := hs.2.2 hG
    obtain rfl | rfl : f = 0 ∨ f = 1 := by omega
    · exact fun h => this.1 h.symm
    · exact fun h => this.2 h.symm
  · obtain rfl : bf = bf' := by rw [hb] at hb'; cases hb'; rfl
    refine ((h.fit bf hb).set _ _).congr (fun p _ => ?_)
    by_cases e : p = q
    · rw [if_pos e, if_pos e]
    · rw [if_neg e, if_neg e]
end

theorem wrap_u64 (n : Int) : IntKind.u64.wrap n = n % 18446744073709551616 := by simp [IntKind.wrap, IntKind.bits, IntKind.signed]
theorem or_shift (x v m : Nat) (hx : x < 18446744073709551616) (hv : v < 65536) : bits .or .u64 (x : Int) (IntKind.u64.wrap ((v : Int) * 2 ^ (16 * (m % 4)))) = ((x ||| v * 2 ^ (16 * (m % 4)) : Nat) : Int) := by
  have h := lane_lt v m hv
  have e : (v : Int) * 2 ^ (16 * (m % 4)) = ((v * 2 ^ (16 * (m % 4)) : Nat) : Int) := by simp
  rw [e, wrap_u64, Int.emod_eq_of_lt (by omega) (by omega)]
  exact u64_or_nat _ _ hx h

end Go.Proofs.Qxb6601576a
