/-
  NARROWER THAN 'FOR EVERY INPUT', by the rows' own cells (each row's printed sentence says how): FnNameListAddMatchesModel: maps · FnNameListAddTwiceChangesNothingMore: maps.
  DERIVED. THE GIVEN ROWS OF THIS SEAT. 5 by the template 'for every input the law returns true; each argument reads behind the call as it read before'; 0 by the template 'total and deterministic' (their statements: Qxb6604795aTotals.lean).
  GIVEN WITH THE SEED: the statements are not yours to turn. If you find one false, say at which input.
  Laid BY PROGRAM, IN A SANDBOX (cutbox-rows.mjs): the forced cells as the released guide's own fill.sh prints them over the translation 27eec9f3477b646f… (all of the seat's roots in one cut). By AI agents, Wed Nov 11 2026. No macro, syntax, notation, axiom, sorry.
-/
import Derived.Test.Qxb6604795aChecked
import GoSem.Claim
import GoSem.ClaimJoined
import GoSem.ClaimMapViews
import Derived.JoinedTies
import Derived.KernelRfl
namespace Go.Proofs.Qxb6604795a
/- THE CELL 'sum', in the pinned program and in every row, IS THE sha256 OF THE DUMP (.gsa) THAT Qxb6604795aProg.lean LOADS. Nothing in Lean hashes anything: it is a label: what it is worth is what the hold of that sum in a sandbox is worth. -/
noncomputable def Try.pinned : Pinned := { name := "qxb6604795a", sum := "27eec9f3477b646fdaf28d440a2a4a827158f8e1965b5243baeadb1e462d126b", checked := Try.checked }
namespace Rows
def none {H : Type} : Left H := { results := [], args := [] }

/-- 'zzlaws_root_b1.FnValueEndMatchesParser': WHATEVER THE INPUT: true; the input reads as it did. -/
def fnValueEndMatchesParserSpec : ChangeSpec := { name := "fnValueEndMatchesParser", fn := fun _ => fun
  | [d1, d2] => { results := [.lit (.bool true)], args := [d1, d2] }
  | _ => none }
def fnValueEndMatchesParserRow : OpenClaim := { program := "qxb6604795a", sum := "27eec9f3477b646fdaf28d440a2a4a827158f8e1965b5243baeadb1e462d126b", func := "example.com/careful-context/careful-context/zzlaws_root_b1.FnValueEndMatchesParser", spec := "fnValueEndMatchesParser", inPlace := ["internal/bytealg.IndexByte"], recurses := true, apart := false }
def FnValueEndMatchesParserSaid : Prop := fnValueEndMatchesParserRow.holds Try.pinned (OpenSpec.ofChange fnValueEndMatchesParserSpec)

/-- ITS FALSE NEIGHBOUR: 'it returns false'. Refute it at one input. -/
def fnValueEndMatchesParserWrong : ChangeSpec := { name := "fnValueEndMatchesParser", fn := fun _ => fun
  | [d1, d2] => { results := [.lit (.bool false)], args := [d1, d2] }
  | _ => none }
def FnValueEndMatchesParserWrongFalsely : Prop := fnValueEndMatchesParserRow.holds Try.pinned (OpenSpec.ofChange fnValueEndMatchesParserWrong)

/-- 'zzlaws_root_b1.FnOutputEndsWriteMatchesByteByByte': WHATEVER THE INPUT: true; the input reads as it did. -/
def fnOutputEndsWriteMatchesByteByByteSpec : ChangeSpec := { name := "fnOutputEndsWriteMatchesByteByByte", fn := fun _ => fun
  | [d1, d2, d3, d4, d5, d6, d7, d8] => { results := [.lit (.bool true)], args := [d1, d2, d3, d4, d5, d6, d7, d8] }
  | _ => none }
def fnOutputEndsWriteMatchesByteByByteRow : OpenClaim := { program := "qxb6604795a", sum := "27eec9f3477b646fdaf28d440a2a4a827158f8e1965b5243baeadb1e462d126b", func := "example.com/careful-context/careful-context/zzlaws_root_b1.FnOutputEndsWriteMatchesByteByByte", spec := "fnOutputEndsWriteMatchesByteByByte", inPlace := ["internal/bytealg.Count", "internal/bytealg.IndexByte", "internal/bytealg.Index"], named := ["internal/bytealg.MaxLen"], apart := false }
def FnOutputEndsWriteMatchesByteByByteSaid : Prop := fnOutputEndsWriteMatchesByteByByteRow.holds Try.pinned (OpenSpec.ofChange fnOutputEndsWriteMatchesByteByByteSpec)

/-- ITS FALSE NEIGHBOUR: 'it returns false'. Refute it at one input. -/
def fnOutputEndsWriteMatchesByteByByteWrong : ChangeSpec := { name := "fnOutputEndsWriteMatchesByteByByte", fn := fun _ => fun
  | [d1, d2, d3, d4, d5, d6, d7, d8] => { results := [.lit (.bool false)], args := [d1, d2, d3, d4, d5, d6, d7, d8] }
  | _ => none }
def FnOutputEndsWriteMatchesByteByByteWrongFalsely : Prop := fnOutputEndsWriteMatchesByteByByteRow.holds Try.pinned (OpenSpec.ofChange fnOutputEndsWriteMatchesByteByByteWrong)

/-- 'zzlaws_root_b1.FnOutputEndsTwoWritesKeepBothEnds': WHATEVER THE INPUT: true; the input reads as it did. -/
def fnOutputEndsTwoWritesKeepBothEndsSpec : ChangeSpec := { name := "fnOutputEndsTwoWritesKeepBothEnds", fn := fun _ => fun
  | [d1, d2, d3] => { results := [.lit (.bool true)], args := [d1, d2, d3] }
  | _ => none }
def fnOutputEndsTwoWritesKeepBothEndsRow : OpenClaim := { program := "qxb6604795a", sum := "27eec9f3477b646fdaf28d440a2a4a827158f8e1965b5243baeadb1e462d126b", func := "example.com/careful-context/careful-context/zzlaws_root_b1.FnOutputEndsTwoWritesKeepBothEnds", spec := "fnOutputEndsTwoWritesKeepBothEnds", inPlace := ["internal/bytealg.Count", "internal/bytealg.IndexByte", "internal/bytealg.Index"], named := ["internal/bytealg.MaxLen"], apart := false }
def FnOutputEndsTwoWritesKeepBothEndsSaid : Prop := fnOutputEndsTwoWritesKeepBothEndsRow.holds Try.pinned (OpenSpec.ofChange fnOutputEndsTwoWritesKeepBothEndsSpec)

/-- ITS FALSE NEIGHBOUR: 'it returns false'. Refute it at one input. -/
def fnOutputEndsTwoWritesKeepBothEndsWrong : ChangeSpec := { name := "fnOutputEndsTwoWritesKeepBothEnds", fn := fun _ => fun
  | [d1, d2, d3] => { results := [.lit (.bool false)], args := [d1, d2, d3] }
  | _ => none }
def FnOutputEndsTwoWritesKeepBothEndsWrongFalsely : Prop := fnOutputEndsTwoWritesKeepBothEndsRow.holds Try.pinned (OpenSpec.ofChange fnOutputEndsTwoWritesKeepBothEndsWrong)

/-- 'zzlaws_root_b1.FnNameListAddMatchesModel': WHATEVER THE INPUT: true; the input reads as it did. -/
def fnNameListAddMatchesModelSpec : ChangeSpec := { name := "fnNameListAddMatchesModel", fn := fun _ => fun
  | [d1, d2, d3, d4, d5, d6, d7, d8] => { results := [.lit (.bool true)], args := [d1, d2, d3, d4, d5, d6, d7, d8] }
  | _ => none }
def fnNameListAddMatchesModelRow : OpenClaim := { program := "qxb6604795a", sum := "27eec9f3477b646fdaf28d440a2a4a827158f8e1965b5243baeadb1e462d126b", func := "example.com/careful-context/careful-context/zzlaws_root_b1.FnNameListAddMatchesModel", spec := "fnNameListAddMatchesModel", maps := true, apart := false }
def FnNameListAddMatchesModelSaid : Prop := fnNameListAddMatchesModelRow.holds Try.pinned (OpenSpec.ofChange fnNameListAddMatchesModelSpec)

/-- ITS FALSE NEIGHBOUR: 'it returns false'. Refute it at one input. -/
def fnNameListAddMatchesModelWrong : ChangeSpec := { name := "fnNameListAddMatchesModel", fn := fun _ => fun
  | [d1, d2, d3, d4, d5, d6, d7, d8] => { results := [.lit (.bool false)], args := [d1, d2, d3, d4, d5, d6, d7, d8] }
  | _ => none }
def FnNameListAddMatchesModelWrongFalsely : Prop := fnNameListAddMatchesModelRow.holds Try.pinned (OpenSpec.ofChange fnNameListAddMatchesModelWrong)

/-- 'zzlaws_root_b1.FnNameListAddTwiceChangesNothingMore': WHATEVER THE INPUT: true; the input reads as it did. -/
def fnNameListAddTwiceChangesNothingMoreSpec : ChangeSpec := { name := "fnNameListAddTwiceChangesNothingMore", fn := fun _ => fun
  | [d1, d2, d3, d4, d5, d6, d7, d8] => { results := [.lit (.bool true)], args := [d1, d2, d3, d4, d5, d6, d7, d8] }
  | _ => none }
def fnNameListAddTwiceChangesNothingMoreRow : OpenClaim := { program := "qxb6604795a", sum := "27eec9f3477b646fdaf28d440a2a4a827158f8e1965b5243baeadb1e462d126b", func := "example.com/careful-context/careful-context/zzlaws_root_b1.FnNameListAddTwiceChangesNothingMore", spec := "fnNameListAddTwiceChangesNothingMore", maps := true, apart := false }
def FnNameListAddTwiceChangesNothingMoreSaid : Prop := fnNameListAddTwiceChangesNothingMoreRow.holds Try.pinned (OpenSpec.ofChange fnNameListAddTwiceChangesNothingMoreSpec)

/-- ITS FALSE NEIGHBOUR: 'it returns false'. Refute it at one input. -/
def fnNameListAddTwiceChangesNothingMoreWrong : ChangeSpec := { name := "fnNameListAddTwiceChangesNothingMore", fn := fun _ => fun
  | [d1, d2, d3, d4, d5, d6, d7, d8] => { results := [.lit (.bool false)], args := [d1, d2, d3, d4, d5, d6, d7, d8] }
  | _ => none }
def FnNameListAddTwiceChangesNothingMoreWrongFalsely : Prop := fnNameListAddTwiceChangesNothingMoreRow.holds Try.pinned (OpenSpec.ofChange fnNameListAddTwiceChangesNothingMoreWrong)

end Rows
end Go.Proofs.Qxb6604795a
