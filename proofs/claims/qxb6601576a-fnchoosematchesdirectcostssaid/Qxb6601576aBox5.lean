import Derived.Test.Qxb6601576aMove5
namespace Go.Proofs.Qxb6601576a
open Go.RowKit

/-- Values laid into a row from off on. -/
def lay (off : Nat) (cs : Array Value) (l : List (Value × Nat)) : Array Value := l.foldl (fun cs x => cs.setIfInBounds (off + x.2) x.1) cs

theorem lay_size (off : Nat) : ∀ (l : List (Value × Nat)) (cs : Array Value), (lay off cs l).size = cs.size
  | [], cs => rfl
  | x :: l, cs => by rw [lay, List.foldl_cons]; exact (lay_size off l _).trans (by simp)

theorem lay_get (off i : Nat) : ∀ (l : List Value) (s : Nat) (cs : Array Value), off + s + l.length ≤ cs.size →
    (lay off cs (l.zipIdx s))[i]? = if off + s ≤ i ∧ i < off + s + l.length then l[i - (off + s)]? else cs[i]?
  | [], s, cs, _ => by
    rw [if_neg (by rw [List.length_nil]; omega)]; rfl
  | x :: l, s, cs, h => by
    rw [List.length_cons] at h
    have ih := lay_get off i l (s + 1) (cs.setIfInBounds (off + s) x) (by simp; omega)
    have e : lay off cs ((x :: l).zipIdx s) = lay off (cs.setIfInBounds (off + s) x) (l.zipIdx (s + 1)) := rfl
    rw [e, ih]
    by_cases h1 : off + (s + 1) ≤ i ∧ i < off + (s + 1) + l.length
    · rw [if_pos h1, if_pos (by rw [List.length_cons]; omega)]
      rw [show i - (off + s) = (i - (off + (s + 1))) + 1 by omega, List.getElem?_cons_succ]
    · rw [if_neg h1]
      by_cases h2 : i = off + s
      · subst h2
        rw [if_pos (by rw [List.length_cons]; omega), Nat.sub_self, List.getElem?_cons_zero, Array.getElem?_setIfInBounds_self, if_pos (by omega)]
      · rw [if_neg (by rw [List.length_cons]; omega), Array.getElem?_setIfInBounds_ne (fun e => h2 e.symm)]

theorem fill_lay (off : Nat) (vs cs : Array Value) : vs.zipIdx.foldl (fun cs (x : Value × Nat) => cs.setIfInBounds (off + x.2) x.1) cs = lay off cs vs.toList.zipIdx := by
  rw [← Array.foldl_toList]
  simp [lay]

/-- The zero of a fit. -/
def z59 : Array Value := (Value.int .i64 0 :: (List.replicate 1548 (Value.int .u8 0) ++ [Value.slice none 0 0, Value.int .i64 0])).toArray
theorem z59_size : z59.size = 1551 := by rw [z59, List.size_toArray, List.length_cons, List.length_append, List.length_replicate]; rfl
theorem z59_one : ∀ v ∈ z59, v.oneCell' = true := by
  intro v hv
  simp only [z59, List.mem_toArray, List.mem_cons, List.mem_append, List.mem_replicate, List.not_mem_nil, or_false] at hv
  rcases hv with rfl | ⟨_, rfl⟩ | rfl | rfl <;> rfl

theorem Try.zinfo59 : (Try.prog.info? 59).map (fun i => (i.zero, i.size)) = some (some (.agg z59), 1551) := by kernel_rfl
def fields59 : Array Field :=
  #[{ name := "n", type := 3, offset := 0, embedded := false, tag := "", pkgPath := "deltaline.example/deltaline/internal/bzip2", byteOffset := 0 },
    { name := "lengths", type := 24, offset := 1, embedded := false, tag := "", pkgPath := "deltaline.example/deltaline/internal/bzip2", byteOffset := 8 },
    { name := "selectors", type := 30, offset := 1549, embedded := false, tag := "", pkgPath := "deltaline.example/deltaline/internal/bzip2", byteOffset := 1560 },
    { name := "bits", type := 3, offset := 1550, embedded := false, tag := "", pkgPath := "deltaline.example/deltaline/internal/bzip2", byteOffset := 1584 }]
theorem Try.und59 : Try.prog.underlying 59 = some (.struct fields59) := Try.underlying59
theorem Try.places59 : fields59.toList.mapM (fun f => (Try.prog.info? f.type).map fun i => (f.offset, i.size)) = some [(0, 1), (1, 1548), (1549, 1), (1550, 1)] := by kernel_rfl

/-- A fit as it is built. -/
def box59 (n : Int) (A : Array Value) (s : Value) : Array Value := lay 1549 (lay 1 (lay 0 z59 [(.int .i64 n, 0)]) A.toList.zipIdx) [(s, 0)]

theorem built59 (n : Int) (A : Array Value) (hA : A.size = 1548) (a : Option Addr) (l c : Nat) : Try.prog.built 59 [(0, .int .i64 n), (1, .agg A), (2, .slice a l c)] = some (box59 n A (.slice a l c)) := by
  have hz := Try.zinfo59
  unfold Program.built
  cases hi : Try.prog.info? 59 with
  | none => rw [hi] at hz; cases hz
  | some it =>
    rw [hi] at hz
    simp only [Option.map_some, Option.some.injEq, Prod.mk.injEq] at hz
    rw [Try.und59]
    dsimp only
    rw [hz.1, Try.places59]
    dsimp only
    have e1 : (Value.int .i64 n).cells = #[.int .i64 n] := rfl
    have e2 : (Value.agg A).cells = A := rfl
    have e3 : (Value.slice a l c).cells = #[.slice a l c] := rfl
    have e4 : (Value.agg z59).cells = z59 := rfl
    have s1 : (lay 0 z59 [(Value.int .i64 n, 0)]).size = 1551 := by rw [lay_size, z59_size]
    have s2 : (lay 1 (lay 0 z59 [(Value.int .i64 n, 0)]) A.toList.zipIdx).size = 1551 := by rw [lay_size, s1]
    rw [Instr.fill]
    have g0 : ([(0, 1), (1, 1548), (1549, 1), (1550, 1)] : List (Nat × Nat)).toArray[0]? = some (0, 1) := rfl
    have g1 : ([(0, 1), (1, 1548), (1549, 1), (1550, 1)] : List (Nat × Nat)).toArray[1]? = some (1, 1548) := rfl
    have g2 : ([(0, 1), (1, 1548), (1549, 1), (1550, 1)] : List (Nat × Nat)).toArray[2]? = some (1549, 1) := rfl
    rw [g0]
    dsimp only
    rw [e1, e4, if_neg (by simp [z59_size]), fill_lay]
    rw [show (#[Value.int .i64 n]).toList.zipIdx = [(Value.int .i64 n, 0)] from rfl]
    rw [Instr.fill, g1]
    dsimp only
    rw [e2, if_neg (by simp [hA, s1]), fill_lay]
    rw [Instr.fill, g2]
    dsimp only
    rw [e3, if_neg (by simp [s2]), fill_lay]
    rfl

theorem box59_size (n : Int) (A : Array Value) (s : Value) : (box59 n A s).size = 1551 := by rw [box59, lay_size, lay_size, lay_size, z59_size]
theorem box59_get (n : Int) (A : Array Value) (hA : A.size = 1548) (s : Value) (i : Nat) :
    (box59 n A s)[i]? = if i = 1549 then some s else if 1 ≤ i ∧ i < 1549 then A[i - 1]? else if i = 0 then some (.int .i64 n) else z59[i]? := by
  have s1 : (lay 0 z59 [(Value.int .i64 n, 0)]).size = 1551 := by rw [lay_size, z59_size]
  have s2 : (lay 1 (lay 0 z59 [(Value.int .i64 n, 0)]) A.toList.zipIdx).size = 1551 := by rw [lay_size, s1]
  have g1 := lay_get 1549 i [s] 0 (lay 1 (lay 0 z59 [(Value.int .i64 n, 0)]) A.toList.zipIdx) (by rw [s2]; simp)
  have g2 := lay_get 1 i A.toList 0 (lay 0 z59 [(Value.int .i64 n, 0)]) (by rw [s1]; simp [hA])
  have g3 := lay_get 0 i [Value.int .i64 n] 0 z59 (by rw [z59_size]; simp)
  rw [show ([s] : List Value).zipIdx = [(s, 0)] from rfl] at g1
  rw [show ([Value.int .i64 n] : List Value).zipIdx = [(Value.int .i64 n, 0)] from rfl] at g3
  have hl : A.toList.length = 1548 := by simpa using hA
  rw [hl] at g2
  rw [box59]
  by_cases h1 : i = 1549
  · rw [if_pos h1, g1, if_pos (by rw [List.length_singleton]; omega), h1]; rfl
  · rw [if_neg h1, g1, if_neg (by rw [List.length_singleton]; omega), g2]
    by_cases h2 : 1 ≤ i ∧ i < 1549
    · rw [if_pos h2, if_pos (show 1 + 0 ≤ i ∧ i < 1 + 0 + 1548 by omega), Array.getElem?_toList]
    · rw [if_neg h2, if_neg (show ¬ (1 + 0 ≤ i ∧ i < 1 + 0 + 1548) by omega), g3]
      by_cases h3 : i = 0
      · rw [if_pos h3, if_pos (by rw [List.length_singleton]; omega), h3]; rfl
      · rw [if_neg h3, if_neg (by rw [List.length_singleton]; omega)]

theorem lay_one (off : Nat) : ∀ (l : List (Value × Nat)) (cs : Array Value), (∀ v ∈ cs, v.oneCell' = true) → (∀ x ∈ l, x.1.oneCell' = true) → ∀ v ∈ lay off cs l, v.oneCell' = true
  | [], cs, h, _ => h
  | x :: l, cs, h, hx => by
    refine lay_one off l _ (fun v hv => ?_) (fun y hy => hx y (by simp [hy]))
    rcases Array.mem_or_eq_of_mem_setIfInBounds hv with h' | rfl
    · exact h v h'
    · exact hx x (by simp)
end Go.Proofs.Qxb6601576a
