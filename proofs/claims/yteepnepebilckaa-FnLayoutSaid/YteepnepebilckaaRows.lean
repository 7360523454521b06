/-
  No cell of these rows narrows 'for every input' (looked for: loops, veiled, ifaces, maps, wideKeys, modest, calm, conditions, laid).
  DERIVED. THE GIVEN ROWS OF THIS SEAT. 8 by the template 'for every input the law returns true; each argument reads behind the call as it read before'; 0 by the template 'total and deterministic' (their statements: YteepnepebilckaaTotals.lean).
  GIVEN WITH THE SEED: the statements are not yours to turn. If you find one false, say at which input.
  Laid BY PROGRAM, IN A SANDBOX (cutbox-rows.mjs): the forced cells as the released guide's own fill.sh prints them over the translation cab905c72b85dbe3… (all of the seat's roots in one cut). By AI agents, Wed Nov 11 2026. No macro, syntax, notation, axiom, sorry.
-/
import Derived.Test.YteepnepebilckaaChecked
import GoSem.Claim
import GoSem.ClaimJoined
import GoSem.ClaimMapViews
import Derived.JoinedTies
import Derived.KernelRfl
namespace Go.Proofs.Yteepnepebilckaa
/- THE CELL 'sum', in the pinned program and in every row, IS THE sha256 OF THE DUMP (.gsa) THAT YteepnepebilckaaProg.lean LOADS. Nothing in Lean hashes anything: it is a label: what it is worth is what the hold of that sum in a sandbox is worth. -/
noncomputable def Try.pinned : Pinned := { name := "yteepnepebilckaa", sum := "cab905c72b85dbe36c0a3ed461031ab8ca579efc7b3ccb04fe5099eb4715b6b8", checked := Try.checked }
namespace Rows
def none {H : Type} : Left H := { results := [], args := [] }

/-- 'laws.FnPhiNone': WHATEVER THE INPUT: true; the input reads as it did. -/
def fnPhiNoneSpec : ChangeSpec := { name := "fnPhiNone", fn := fun _ => fun
  | [d] => { results := [.lit (.bool true)], args := [d] }
  | _ => none }
def fnPhiNoneRow : OpenClaim := { program := "yteepnepebilckaa", sum := "cab905c72b85dbe36c0a3ed461031ab8ca579efc7b3ccb04fe5099eb4715b6b8", func := "loop.example/pub-passesoverblocks/laws.FnPhiNone", spec := "fnPhiNone", recurses := true, apart := false }
def FnPhiNoneSaid : Prop := fnPhiNoneRow.holds Try.pinned (OpenSpec.ofChange fnPhiNoneSpec)

/-- ITS FALSE NEIGHBOUR: 'it returns false'. Refute it at one input. -/
def fnPhiNoneWrong : ChangeSpec := { name := "fnPhiNone", fn := fun _ => fun
  | [d] => { results := [.lit (.bool false)], args := [d] }
  | _ => none }
def FnPhiNoneWrongFalsely : Prop := fnPhiNoneRow.holds Try.pinned (OpenSpec.ofChange fnPhiNoneWrong)

/-- 'laws.FnPhiPlaces': WHATEVER THE INPUT: true; the input reads as it did. -/
def fnPhiPlacesSpec : ChangeSpec := { name := "fnPhiPlaces", fn := fun _ => fun
  | [d] => { results := [.lit (.bool true)], args := [d] }
  | _ => none }
def fnPhiPlacesRow : OpenClaim := { program := "yteepnepebilckaa", sum := "cab905c72b85dbe36c0a3ed461031ab8ca579efc7b3ccb04fe5099eb4715b6b8", func := "loop.example/pub-passesoverblocks/laws.FnPhiPlaces", spec := "fnPhiPlaces", recurses := true, apart := false }
def FnPhiPlacesSaid : Prop := fnPhiPlacesRow.holds Try.pinned (OpenSpec.ofChange fnPhiPlacesSpec)

/-- ITS FALSE NEIGHBOUR: 'it returns false'. Refute it at one input. -/
def fnPhiPlacesWrong : ChangeSpec := { name := "fnPhiPlaces", fn := fun _ => fun
  | [d] => { results := [.lit (.bool false)], args := [d] }
  | _ => none }
def FnPhiPlacesWrongFalsely : Prop := fnPhiPlacesRow.holds Try.pinned (OpenSpec.ofChange fnPhiPlacesWrong)

/-- 'laws.FnPhiRuns': WHATEVER THE INPUT: true; the input reads as it did. -/
def fnPhiRunsSpec : ChangeSpec := { name := "fnPhiRuns", fn := fun _ => fun
  | [d1, d2] => { results := [.lit (.bool true)], args := [d1, d2] }
  | _ => none }
def fnPhiRunsRow : OpenClaim := { program := "yteepnepebilckaa", sum := "cab905c72b85dbe36c0a3ed461031ab8ca579efc7b3ccb04fe5099eb4715b6b8", func := "loop.example/pub-passesoverblocks/laws.FnPhiRuns", spec := "fnPhiRuns", recurses := true, apart := false }
def FnPhiRunsSaid : Prop := fnPhiRunsRow.holds Try.pinned (OpenSpec.ofChange fnPhiRunsSpec)

/-- ITS FALSE NEIGHBOUR: 'it returns false'. Refute it at one input. -/
def fnPhiRunsWrong : ChangeSpec := { name := "fnPhiRuns", fn := fun _ => fun
  | [d1, d2] => { results := [.lit (.bool false)], args := [d1, d2] }
  | _ => none }
def FnPhiRunsWrongFalsely : Prop := fnPhiRunsRow.holds Try.pinned (OpenSpec.ofChange fnPhiRunsWrong)

/-- 'laws.FnCopyNone': WHATEVER THE INPUT: true; the input reads as it did. -/
def fnCopyNoneSpec : ChangeSpec := { name := "fnCopyNone", fn := fun _ => fun
  | [d] => { results := [.lit (.bool true)], args := [d] }
  | _ => none }
def fnCopyNoneRow : OpenClaim := { program := "yteepnepebilckaa", sum := "cab905c72b85dbe36c0a3ed461031ab8ca579efc7b3ccb04fe5099eb4715b6b8", func := "loop.example/pub-passesoverblocks/laws.FnCopyNone", spec := "fnCopyNone", recurses := true, apart := false }
def FnCopyNoneSaid : Prop := fnCopyNoneRow.holds Try.pinned (OpenSpec.ofChange fnCopyNoneSpec)

/-- ITS FALSE NEIGHBOUR: 'it returns false'. Refute it at one input. -/
def fnCopyNoneWrong : ChangeSpec := { name := "fnCopyNone", fn := fun _ => fun
  | [d] => { results := [.lit (.bool false)], args := [d] }
  | _ => none }
def FnCopyNoneWrongFalsely : Prop := fnCopyNoneRow.holds Try.pinned (OpenSpec.ofChange fnCopyNoneWrong)

/-- 'laws.FnCopyRuns': WHATEVER THE INPUT: true; the input reads as it did. -/
def fnCopyRunsSpec : ChangeSpec := { name := "fnCopyRuns", fn := fun _ => fun
  | [d1, d2] => { results := [.lit (.bool true)], args := [d1, d2] }
  | _ => none }
def fnCopyRunsRow : OpenClaim := { program := "yteepnepebilckaa", sum := "cab905c72b85dbe36c0a3ed461031ab8ca579efc7b3ccb04fe5099eb4715b6b8", func := "loop.example/pub-passesoverblocks/laws.FnCopyRuns", spec := "fnCopyRuns", recurses := true, apart := false }
def FnCopyRunsSaid : Prop := fnCopyRunsRow.holds Try.pinned (OpenSpec.ofChange fnCopyRunsSpec)

/-- ITS FALSE NEIGHBOUR: 'it returns false'. Refute it at one input. -/
def fnCopyRunsWrong : ChangeSpec := { name := "fnCopyRuns", fn := fun _ => fun
  | [d1, d2] => { results := [.lit (.bool false)], args := [d1, d2] }
  | _ => none }
def FnCopyRunsWrongFalsely : Prop := fnCopyRunsRow.holds Try.pinned (OpenSpec.ofChange fnCopyRunsWrong)

/-- 'laws.FnCopySource': WHATEVER THE INPUT: true; the input reads as it did. -/
def fnCopySourceSpec : ChangeSpec := { name := "fnCopySource", fn := fun _ => fun
  | [d] => { results := [.lit (.bool true)], args := [d] }
  | _ => none }
def fnCopySourceRow : OpenClaim := { program := "yteepnepebilckaa", sum := "cab905c72b85dbe36c0a3ed461031ab8ca579efc7b3ccb04fe5099eb4715b6b8", func := "loop.example/pub-passesoverblocks/laws.FnCopySource", spec := "fnCopySource", recurses := true, apart := false }
def FnCopySourceSaid : Prop := fnCopySourceRow.holds Try.pinned (OpenSpec.ofChange fnCopySourceSpec)

/-- ITS FALSE NEIGHBOUR: 'it returns false'. Refute it at one input. -/
def fnCopySourceWrong : ChangeSpec := { name := "fnCopySource", fn := fun _ => fun
  | [d] => { results := [.lit (.bool false)], args := [d] }
  | _ => none }
def FnCopySourceWrongFalsely : Prop := fnCopySourceRow.holds Try.pinned (OpenSpec.ofChange fnCopySourceWrong)

/-- 'laws.FnElimTwice': WHATEVER THE INPUT: true; the input reads as it did. -/
def fnElimTwiceSpec : ChangeSpec := { name := "fnElimTwice", fn := fun _ => fun
  | [d] => { results := [.lit (.bool true)], args := [d] }
  | _ => none }
def fnElimTwiceRow : OpenClaim := { program := "yteepnepebilckaa", sum := "cab905c72b85dbe36c0a3ed461031ab8ca579efc7b3ccb04fe5099eb4715b6b8", func := "loop.example/pub-passesoverblocks/laws.FnElimTwice", spec := "fnElimTwice", recurses := true, apart := false }
def FnElimTwiceSaid : Prop := fnElimTwiceRow.holds Try.pinned (OpenSpec.ofChange fnElimTwiceSpec)

/-- ITS FALSE NEIGHBOUR: 'it returns false'. Refute it at one input. -/
def fnElimTwiceWrong : ChangeSpec := { name := "fnElimTwice", fn := fun _ => fun
  | [d] => { results := [.lit (.bool false)], args := [d] }
  | _ => none }
def FnElimTwiceWrongFalsely : Prop := fnElimTwiceRow.holds Try.pinned (OpenSpec.ofChange fnElimTwiceWrong)

/-- 'laws.FnLayout': WHATEVER THE INPUT: true; the input reads as it did. -/
def fnLayoutSpec : ChangeSpec := { name := "fnLayout", fn := fun _ => fun
  | [d] => { results := [.lit (.bool true)], args := [d] }
  | _ => none }
def fnLayoutRow : OpenClaim := { program := "yteepnepebilckaa", sum := "cab905c72b85dbe36c0a3ed461031ab8ca579efc7b3ccb04fe5099eb4715b6b8", func := "loop.example/pub-passesoverblocks/laws.FnLayout", spec := "fnLayout", recurses := true, apart := false }
def FnLayoutSaid : Prop := fnLayoutRow.holds Try.pinned (OpenSpec.ofChange fnLayoutSpec)

/-- ITS FALSE NEIGHBOUR: 'it returns false'. Refute it at one input. -/
def fnLayoutWrong : ChangeSpec := { name := "fnLayout", fn := fun _ => fun
  | [d] => { results := [.lit (.bool false)], args := [d] }
  | _ => none }
def FnLayoutWrongFalsely : Prop := fnLayoutRow.holds Try.pinned (OpenSpec.ofChange fnLayoutWrong)

/- THE SECOND FORM. 'bulk': how many values and letters a reading holds, each counted each time it is reached (what is shared counts as often as it is met; a slice's spare places count too). A statement '..UptoSaid' is the law's where the arguments, and the package variables that the reading takes, are together of bulk at most 1048576: NARROWER than '..Said'. Prove '..Said' where nothing that the law and all that it calls make is longer than what came in: it says more and counts as full. Else prove '..UptoSaid'. A law counts once. -/
mutual
def uptoBulk {H : Type} : DataW H → Nat
  | .lit (.string bytes) => bytes.length + 1
  | .lit _ => 1
  | .nil => 1
  | .ptr d => uptoBulk d + 1
  | .slice elems spare => uptoBulkAll elems + uptoBulkAll spare + 1
  | .agg parts => uptoBulkAll parts + 1
  | .iface _ d => uptoBulk d + 1
  | .map entries => uptoBulkEntries entries + 1
  | .held _ => 1
def uptoBulkAll {H : Type} : List (DataW H) → Nat
  | [] => 0
  | d :: r => uptoBulk d + uptoBulkAll r
def uptoBulkEntries {H : Type} : List (Lit × DataW H) → Nat
  | [] => 0
  | x :: r => uptoBulkEntry x + uptoBulkEntries r
def uptoBulkEntry {H : Type} : Lit × DataW H → Nat
  | (.string bytes, d) => bytes.length + uptoBulk d + 1
  | (_, d) => uptoBulk d + 1
 end
def uptoSmall : (H : Type) → List (DataW H) → Bool := fun _ ds => decide (uptoBulkAll ds ≤ 1048576)
def OpenSpec.upto (s : _root_.Go.ChangeSpec) : _root_.Go.OpenSpec := { _root_.Go.OpenSpec.ofChange s with cond := some uptoSmall }

/-- 'laws.FnPhiNone', WHERE WHAT IT READS IS OF BULK AT MOST 1048576: true; the input reads as it did. -/
def fnPhiNoneUptoRow : OpenClaim := { program := "yteepnepebilckaa", sum := "cab905c72b85dbe36c0a3ed461031ab8ca579efc7b3ccb04fe5099eb4715b6b8", func := "loop.example/pub-passesoverblocks/laws.FnPhiNone", spec := "fnPhiNone", recurses := true, apart := false, narrowed := true }
def FnPhiNoneUptoSaid : Prop := fnPhiNoneUptoRow.holds Try.pinned (OpenSpec.upto fnPhiNoneSpec)

/-- 'laws.FnPhiPlaces', WHERE WHAT IT READS IS OF BULK AT MOST 1048576: true; the input reads as it did. -/
def fnPhiPlacesUptoRow : OpenClaim := { program := "yteepnepebilckaa", sum := "cab905c72b85dbe36c0a3ed461031ab8ca579efc7b3ccb04fe5099eb4715b6b8", func := "loop.example/pub-passesoverblocks/laws.FnPhiPlaces", spec := "fnPhiPlaces", recurses := true, apart := false, narrowed := true }
def FnPhiPlacesUptoSaid : Prop := fnPhiPlacesUptoRow.holds Try.pinned (OpenSpec.upto fnPhiPlacesSpec)

/-- 'laws.FnPhiRuns', WHERE WHAT IT READS IS OF BULK AT MOST 1048576: true; the input reads as it did. -/
def fnPhiRunsUptoRow : OpenClaim := { program := "yteepnepebilckaa", sum := "cab905c72b85dbe36c0a3ed461031ab8ca579efc7b3ccb04fe5099eb4715b6b8", func := "loop.example/pub-passesoverblocks/laws.FnPhiRuns", spec := "fnPhiRuns", recurses := true, apart := false, narrowed := true }
def FnPhiRunsUptoSaid : Prop := fnPhiRunsUptoRow.holds Try.pinned (OpenSpec.upto fnPhiRunsSpec)

/-- 'laws.FnCopyNone', WHERE WHAT IT READS IS OF BULK AT MOST 1048576: true; the input reads as it did. -/
def fnCopyNoneUptoRow : OpenClaim := { program := "yteepnepebilckaa", sum := "cab905c72b85dbe36c0a3ed461031ab8ca579efc7b3ccb04fe5099eb4715b6b8", func := "loop.example/pub-passesoverblocks/laws.FnCopyNone", spec := "fnCopyNone", recurses := true, apart := false, narrowed := true }
def FnCopyNoneUptoSaid : Prop := fnCopyNoneUptoRow.holds Try.pinned (OpenSpec.upto fnCopyNoneSpec)

/-- 'laws.FnCopyRuns', WHERE WHAT IT READS IS OF BULK AT MOST 1048576: true; the input reads as it did. -/
def fnCopyRunsUptoRow : OpenClaim := { program := "yteepnepebilckaa", sum := "cab905c72b85dbe36c0a3ed461031ab8ca579efc7b3ccb04fe5099eb4715b6b8", func := "loop.example/pub-passesoverblocks/laws.FnCopyRuns", spec := "fnCopyRuns", recurses := true, apart := false, narrowed := true }
def FnCopyRunsUptoSaid : Prop := fnCopyRunsUptoRow.holds Try.pinned (OpenSpec.upto fnCopyRunsSpec)

/-- 'laws.FnCopySource', WHERE WHAT IT READS IS OF BULK AT MOST 1048576: true; the input reads as it did. -/
def fnCopySourceUptoRow : OpenClaim := { program := "yteepnepebilckaa", sum := "cab905c72b85dbe36c0a3ed461031ab8ca579efc7b3ccb04fe5099eb4715b6b8", func := "loop.example/pub-passesoverblocks/laws.FnCopySource", spec := "fnCopySource", recurses := true, apart := false, narrowed := true }
def FnCopySourceUptoSaid : Prop := fnCopySourceUptoRow.holds Try.pinned (OpenSpec.upto fnCopySourceSpec)

/-- 'laws.FnElimTwice', WHERE WHAT IT READS IS OF BULK AT MOST 1048576: true; the input reads as it did. -/
def fnElimTwiceUptoRow : OpenClaim := { program := "yteepnepebilckaa", sum := "cab905c72b85dbe36c0a3ed461031ab8ca579efc7b3ccb04fe5099eb4715b6b8", func := "loop.example/pub-passesoverblocks/laws.FnElimTwice", spec := "fnElimTwice", recurses := true, apart := false, narrowed := true }
def FnElimTwiceUptoSaid : Prop := fnElimTwiceUptoRow.holds Try.pinned (OpenSpec.upto fnElimTwiceSpec)

/-- 'laws.FnLayout', WHERE WHAT IT READS IS OF BULK AT MOST 1048576: true; the input reads as it did. -/
def fnLayoutUptoRow : OpenClaim := { program := "yteepnepebilckaa", sum := "cab905c72b85dbe36c0a3ed461031ab8ca579efc7b3ccb04fe5099eb4715b6b8", func := "loop.example/pub-passesoverblocks/laws.FnLayout", spec := "fnLayout", recurses := true, apart := false, narrowed := true }
def FnLayoutUptoSaid : Prop := fnLayoutUptoRow.holds Try.pinned (OpenSpec.upto fnLayoutSpec)

end Rows
end Go.Proofs.Yteepnepebilckaa
