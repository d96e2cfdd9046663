import Derived.Test.Qxb6601576aBytes5
namespace Go.Proofs.Qxb6601576a
open Go.RowKit

/-- The entries of group g. -/
def OfSays (hi : Nat) (w : World) (E st : Nat → Nat) (g : Nat) (e : Ending) (w' : World) : Prop :=
  Drawn w w' ∧ ∃ a' c', e = .returned (.slice a' (st (g + 1) - st g : Nat) c') ∧ CB hi w a' (st (g + 1) - st g) (fun j => .int .u16 (E (st g + j) : Nat))

set_option maxHeartbeats 1000000 in
set_option maxRecDepth 100000 in
theorem of_some (hi : Nat) (w : World) (bg eb eo nE cE tb tof nT cT G g : Nat) (E st : Nat → Nat) (T : Nat → Int) (hg : g < G)
    (hb0 : w.cell? ⟨bg, 0, none⟩ = some (.slice (some ⟨eb, eo, none⟩) nE cE)) (hb1 : w.cell? ⟨bg, 1, none⟩ = some (.slice (some ⟨tb, tof, none⟩) nT cT))
    (hE : CB hi w (some ⟨eb, eo, none⟩) nE (fun i => .int .u16 (E i : Nat))) (hT : CB hi w (some ⟨tb, tof, none⟩) nT (fun i => .int .i32 (T i))) (hG : Grp E st T G nE nT) (hcE : nE ≤ cE) :
    Calls Try.prog 34 #[.pointer (some ⟨bg, 0, none⟩), .int .i64 (g : Nat)] w (OfSays hi w E st g) := by
  have h1 := hG.hnT (by omega)
  have hgG := hG.gG
  have hnE := hG.hnE
  obtain ⟨_, _, he, _, ht⟩ := hT.at (show g < nT by omega)
  cases he
  obtain ⟨_, _, he, _, ht1⟩ := hT.at (show g + 1 < nT by omega)
  cases he
  rw [hG.hst g (by omega) (by omega)] at ht
  rw [hG.hst (g + 1) (by omega) (by omega)] at ht1
  have e1 := hG.le g (by omega) (by omega)
  have e2 := hG.le (g + 1) (by omega) (by omega)
  have e3 := hG.up g hg
  have hgT : g < nT := by omega
  have hgT1 : g + 1 < nT := by omega
  clear hT hG h1
  by_cases hcs : cE = st g
  · have z : st (g + 1) - st g = 0 := by omega
    have Z : Hid (st (g + 1) - st g = 0) := z
    clear z
    go_enter Try.func34, Try.ntmps34
    go_wp2_with fail
    go_quiet (fail)
    go_wp2_with fail
    go_ret
    refine ⟨(Drawn.refl w).more _, _, _, rfl, by omega, .inl Z.out⟩
  · go_enter Try.func34, Try.ntmps34
    go_wp2_with fail
    go_quiet (fail)
    go_wp2_with fail
    go_ret
    refine ⟨(Drawn.refl w).more _, _, _, rfl, ?_⟩
    refine ⟨by omega, ?_⟩
    by_cases h0 : st (g + 1) - st g = 0
    · exact .inl h0
    · right
      obtain ⟨b', o', he, hl, hc⟩ := (show ∃ b o, some (⟨eb, eo, none⟩ : Addr) = some ⟨b, o, none⟩ ∧ b < hi ∧ ∀ i, i < nE → w.cell? ⟨b, o + i, none⟩ = some (.int .u16 (E i : Nat)) from hE.2.resolve_left (by omega))
      cases he
      refine ⟨eb, eo + st g, rfl, hl, fun i hi' => ?_⟩
      have := hc (st g + i) (by omega)
      rw [← Nat.add_assoc] at this
      exact this

set_option maxHeartbeats 1000000 in
set_option maxRecDepth 100000 in
theorem of_nil (hi : Nat) (w : World) (bg tb tof nT cT G g : Nat) (E st : Nat → Nat) (T : Nat → Int) (hg : g < G)
    (hb0 : w.cell? ⟨bg, 0, none⟩ = some (.slice none 0 0)) (hb1 : w.cell? ⟨bg, 1, none⟩ = some (.slice (some ⟨tb, tof, none⟩) nT cT))
    (hT : CB hi w (some ⟨tb, tof, none⟩) nT (fun i => .int .i32 (T i))) (hG : Grp E st T G 0 nT) :
    Calls Try.prog 34 #[.pointer (some ⟨bg, 0, none⟩), .int .i64 (g : Nat)] w (OfSays hi w E st g) := by
  have h1 := hG.hnT (by omega)
  have hgG := hG.gG
  obtain ⟨_, _, he, _, ht⟩ := hT.at (show g < nT by omega)
  cases he
  obtain ⟨_, _, he, _, ht1⟩ := hT.at (show g + 1 < nT by omega)
  cases he
  have e1 := hG.le g (by omega) (by omega)
  have e2 := hG.le (g + 1) (by omega) (by omega)
  have z1 : st g = 0 := by omega
  have z2 : st (g + 1) = 0 := by omega
  rw [hG.hst g (by omega) (by omega), z1] at ht
  rw [hG.hst (g + 1) (by omega) (by omega), z2] at ht1
  have Z1 : Hid (st g = 0) := z1
  have Z2 : Hid (st (g + 1) = 0) := z2
  have hgT : g < nT := by omega
  have hgT1 : g + 1 < nT := by omega
  clear hT hG h1 e1 e2 z1 z2
  go_enter Try.func34, Try.ntmps34
  go_wp2_with fail
  go_quiet (fail)
  go_wp2_with fail
  go_ret
  refine ⟨(Drawn.refl w).more _, none, 0, ?_, ?_⟩
  · rw [Z1.out, Z2.out]; rfl
  · rw [Z1.out, Z2.out]; exact ⟨by omega, .inl rfl⟩

theorem of_walk (hi : Nat) (w : World) (bg nE cE nT cT G g : Nat) (ea ta : Option Addr) (E st : Nat → Nat) (T : Nat → Int) (hg : g < G)
    (hb0 : w.cell? ⟨bg, 0, none⟩ = some (.slice ea nE cE)) (hb1 : w.cell? ⟨bg, 1, none⟩ = some (.slice ta nT cT))
    (hE : CB hi w ea nE (fun i => .int .u16 (E i : Nat))) (hT : CB hi w ta nT (fun i => .int .i32 (T i))) (hG : Grp E st T G nE nT) (hea : (∃ b o, ea = some ⟨b, o, none⟩) ∨ ea = none ∧ cE = 0) (hcE : nE ≤ cE) :
    Calls Try.prog 34 #[.pointer (some ⟨bg, 0, none⟩), .int .i64 (g : Nat)] w (OfSays hi w E st g) := by
  obtain ⟨tb, tof, rfl, _, _⟩ := hT.at (show 0 < nT by have := hG.hnT (by omega); omega)
  rcases hea with ⟨b, o, rfl⟩ | ⟨rfl, rfl⟩
  · exact of_some hi w bg b o nE cE tb tof nT cT G g E st T hg hb0 hb1 hE hT hG hcE
  · obtain rfl : nE = 0 := by omega
    exact of_nil hi w bg tb tof nT cT G g E st T hg hb0 hb1 hT hG
end Go.Proofs.Qxb6601576a
