/-
  NARROWER THAN 'FOR EVERY INPUT', by the rows' own cells (each row's printed sentence says how): FnPartitionAlike: laid · FnPartitionMost: laid · FnCseRuns: laid · FnCseOver: laid · FnAllRun: laid.
  DERIVED. THE GIVEN ROWS OF THIS SEAT. 5 by the template 'for every input the law returns true; each argument reads behind the call as it read before'; 0 by the template 'total and deterministic' (their statements: YteepnepebilckaaGreatDoorTotals.lean).
  GIVEN WITH THE SEED: the statements are not yours to turn. If you find one false, say at which input.
  Laid BY PROGRAM, IN A SANDBOX (cutbox-rows.mjs): the forced cells as the released guide's own fill.sh prints them over the translation e551bebbe60605e8… (all of the seat's roots in one cut). By AI agents, Wed Nov 11 2026. No macro, syntax, notation, axiom, sorry.
-/
import Derived.Test.YteepnepebilckaaGreatDoorChecked
import GoSem.Claim
import GoSem.ClaimJoined
import GoSem.ClaimMapViews
import Derived.JoinedTies
import Derived.KernelRfl
namespace Go.Proofs.YteepnepebilckaaGreatDoor
/- THE CELL 'sum', in the pinned program and in every row, IS THE sha256 OF THE DUMP (.gsa) THAT YteepnepebilckaaGreatDoorProg.lean LOADS. Nothing in Lean hashes anything: it is a label: what it is worth is what the hold of that sum in a sandbox is worth. -/
noncomputable def Tryz.pinned : Pinned := { name := "yteepnepebilckaagreatdoor", sum := "e551bebbe60605e881d1d781c36eb75cd8cdfce0e4ce5f5bdb1d20f824a8fa6b", checked := Tryz.checked }
namespace Rows
def none {H : Type} : Left H := { results := [], args := [] }

/- WHAT THE LISTED PACKAGE-LEVEL VARIABLES READ AS WHEN THE CALL BEGINS. Each datum BY PROGRAM (the guide's laid-datum.mjs) off the statement by which the dump's own 'gosem.cut.vars' lays the variable. In a bare row this is a premise. The card (YteepnepebilckaaGreatDoorCards.lean) ties it to the program's text. -/
def laid_loop_example_pub_passesoverblocks_pub_ssapasses_opcodeTable {H : Type} : DataW H := .agg [.agg [.lit (.bool false)], .agg [.lit (.bool false)], .agg [.lit (.bool true)], .agg [.lit (.bool false)], .agg [.lit (.bool true)], .agg [.lit (.bool true)], .agg [.lit (.bool true)], .agg [.lit (.bool true)], .agg [.lit (.bool false)], .agg [.lit (.bool false)], .agg [.lit (.bool false)], .agg [.lit (.bool true)], .agg [.lit (.bool true)], .agg [.lit (.bool false)], .agg [.lit (.bool false)], .agg [.lit (.bool false)], .agg [.lit (.bool false)], .agg [.lit (.bool false)], .agg [.lit (.bool false)], .agg [.lit (.bool false)], .agg [.lit (.bool false)]]

/-- 'laws.FnPartitionAlike': WHATEVER THE INPUT: true; the input reads as it did. -/
def fnPartitionAlikeSpec : ChangeSpec := { name := "fnPartitionAlike", vars := ["loop.example/pub-passesoverblocks/pub/ssapasses.opcodeTable"], fn := fun _ => fun
  | [d, g1] => { results := [.lit (.bool true)], args := [d], vars := [g1] }
  | _ => none }
def fnPartitionAlikeRow : OpenClaim := { program := "yteepnepebilckaagreatdoor", sum := "e551bebbe60605e881d1d781c36eb75cd8cdfce0e4ce5f5bdb1d20f824a8fa6b", func := "loop.example/pub-passesoverblocks/laws.FnPartitionAlike", spec := "fnPartitionAlike", unfollowed := true, recurses := true, named := ["loop.example/pub-passesoverblocks/pub/ssapasses.opcodeTable"], apart := false, laid := [("loop.example/pub-passesoverblocks/pub/ssapasses.opcodeTable", laid_loop_example_pub_passesoverblocks_pub_ssapasses_opcodeTable)] }
def FnPartitionAlikeSaid : Prop := fnPartitionAlikeRow.holds Tryz.pinned (OpenSpec.ofChange fnPartitionAlikeSpec)

/-- ITS FALSE NEIGHBOUR: 'it returns false'. Refute it at one input. -/
def fnPartitionAlikeWrong : ChangeSpec := { name := "fnPartitionAlike", vars := ["loop.example/pub-passesoverblocks/pub/ssapasses.opcodeTable"], fn := fun _ => fun
  | [d, g1] => { results := [.lit (.bool false)], args := [d], vars := [g1] }
  | _ => none }
def FnPartitionAlikeWrongFalsely : Prop := fnPartitionAlikeRow.holds Tryz.pinned (OpenSpec.ofChange fnPartitionAlikeWrong)

/-- 'laws.FnPartitionMost': WHATEVER THE INPUT: true; the input reads as it did. -/
def fnPartitionMostSpec : ChangeSpec := { name := "fnPartitionMost", vars := ["loop.example/pub-passesoverblocks/pub/ssapasses.opcodeTable"], fn := fun _ => fun
  | [d, g1] => { results := [.lit (.bool true)], args := [d], vars := [g1] }
  | _ => none }
def fnPartitionMostRow : OpenClaim := { program := "yteepnepebilckaagreatdoor", sum := "e551bebbe60605e881d1d781c36eb75cd8cdfce0e4ce5f5bdb1d20f824a8fa6b", func := "loop.example/pub-passesoverblocks/laws.FnPartitionMost", spec := "fnPartitionMost", unfollowed := true, recurses := true, named := ["loop.example/pub-passesoverblocks/pub/ssapasses.opcodeTable"], apart := false, laid := [("loop.example/pub-passesoverblocks/pub/ssapasses.opcodeTable", laid_loop_example_pub_passesoverblocks_pub_ssapasses_opcodeTable)] }
def FnPartitionMostSaid : Prop := fnPartitionMostRow.holds Tryz.pinned (OpenSpec.ofChange fnPartitionMostSpec)

/-- ITS FALSE NEIGHBOUR: 'it returns false'. Refute it at one input. -/
def fnPartitionMostWrong : ChangeSpec := { name := "fnPartitionMost", vars := ["loop.example/pub-passesoverblocks/pub/ssapasses.opcodeTable"], fn := fun _ => fun
  | [d, g1] => { results := [.lit (.bool false)], args := [d], vars := [g1] }
  | _ => none }
def FnPartitionMostWrongFalsely : Prop := fnPartitionMostRow.holds Tryz.pinned (OpenSpec.ofChange fnPartitionMostWrong)

/-- 'laws.FnCseRuns': WHATEVER THE INPUT: true; the input reads as it did. -/
def fnCseRunsSpec : ChangeSpec := { name := "fnCseRuns", vars := ["loop.example/pub-passesoverblocks/pub/ssapasses.opcodeTable"], fn := fun _ => fun
  | [d1, d2, g1] => { results := [.lit (.bool true)], args := [d1, d2], vars := [g1] }
  | _ => none }
def fnCseRunsRow : OpenClaim := { program := "yteepnepebilckaagreatdoor", sum := "e551bebbe60605e881d1d781c36eb75cd8cdfce0e4ce5f5bdb1d20f824a8fa6b", func := "loop.example/pub-passesoverblocks/laws.FnCseRuns", spec := "fnCseRuns", unfollowed := true, recurses := true, named := ["loop.example/pub-passesoverblocks/pub/ssapasses.opcodeTable"], apart := false, laid := [("loop.example/pub-passesoverblocks/pub/ssapasses.opcodeTable", laid_loop_example_pub_passesoverblocks_pub_ssapasses_opcodeTable)] }
def FnCseRunsSaid : Prop := fnCseRunsRow.holds Tryz.pinned (OpenSpec.ofChange fnCseRunsSpec)

/-- ITS FALSE NEIGHBOUR: 'it returns false'. Refute it at one input. -/
def fnCseRunsWrong : ChangeSpec := { name := "fnCseRuns", vars := ["loop.example/pub-passesoverblocks/pub/ssapasses.opcodeTable"], fn := fun _ => fun
  | [d1, d2, g1] => { results := [.lit (.bool false)], args := [d1, d2], vars := [g1] }
  | _ => none }
def FnCseRunsWrongFalsely : Prop := fnCseRunsRow.holds Tryz.pinned (OpenSpec.ofChange fnCseRunsWrong)

/-- 'laws.FnCseOver': WHATEVER THE INPUT: true; the input reads as it did. -/
def fnCseOverSpec : ChangeSpec := { name := "fnCseOver", vars := ["loop.example/pub-passesoverblocks/pub/ssapasses.opcodeTable"], fn := fun _ => fun
  | [d, g1] => { results := [.lit (.bool true)], args := [d], vars := [g1] }
  | _ => none }
def fnCseOverRow : OpenClaim := { program := "yteepnepebilckaagreatdoor", sum := "e551bebbe60605e881d1d781c36eb75cd8cdfce0e4ce5f5bdb1d20f824a8fa6b", func := "loop.example/pub-passesoverblocks/laws.FnCseOver", spec := "fnCseOver", unfollowed := true, recurses := true, named := ["loop.example/pub-passesoverblocks/pub/ssapasses.opcodeTable"], apart := false, laid := [("loop.example/pub-passesoverblocks/pub/ssapasses.opcodeTable", laid_loop_example_pub_passesoverblocks_pub_ssapasses_opcodeTable)] }
def FnCseOverSaid : Prop := fnCseOverRow.holds Tryz.pinned (OpenSpec.ofChange fnCseOverSpec)

/-- ITS FALSE NEIGHBOUR: 'it returns false'. Refute it at one input. -/
def fnCseOverWrong : ChangeSpec := { name := "fnCseOver", vars := ["loop.example/pub-passesoverblocks/pub/ssapasses.opcodeTable"], fn := fun _ => fun
  | [d, g1] => { results := [.lit (.bool false)], args := [d], vars := [g1] }
  | _ => none }
def FnCseOverWrongFalsely : Prop := fnCseOverRow.holds Tryz.pinned (OpenSpec.ofChange fnCseOverWrong)

/-- 'laws.FnAllRun': WHATEVER THE INPUT: true; the input reads as it did. -/
def fnAllRunSpec : ChangeSpec := { name := "fnAllRun", vars := ["loop.example/pub-passesoverblocks/pub/ssapasses.opcodeTable"], fn := fun _ => fun
  | [d1, d2, g1] => { results := [.lit (.bool true)], args := [d1, d2], vars := [g1] }
  | _ => none }
def fnAllRunRow : OpenClaim := { program := "yteepnepebilckaagreatdoor", sum := "e551bebbe60605e881d1d781c36eb75cd8cdfce0e4ce5f5bdb1d20f824a8fa6b", func := "loop.example/pub-passesoverblocks/laws.FnAllRun", spec := "fnAllRun", unfollowed := true, recurses := true, named := ["loop.example/pub-passesoverblocks/pub/ssapasses.opcodeTable"], apart := false, laid := [("loop.example/pub-passesoverblocks/pub/ssapasses.opcodeTable", laid_loop_example_pub_passesoverblocks_pub_ssapasses_opcodeTable)] }
def FnAllRunSaid : Prop := fnAllRunRow.holds Tryz.pinned (OpenSpec.ofChange fnAllRunSpec)

/-- ITS FALSE NEIGHBOUR: 'it returns false'. Refute it at one input. -/
def fnAllRunWrong : ChangeSpec := { name := "fnAllRun", vars := ["loop.example/pub-passesoverblocks/pub/ssapasses.opcodeTable"], fn := fun _ => fun
  | [d1, d2, g1] => { results := [.lit (.bool false)], args := [d1, d2], vars := [g1] }
  | _ => none }
def FnAllRunWrongFalsely : Prop := fnAllRunRow.holds Tryz.pinned (OpenSpec.ofChange fnAllRunWrong)

/- THE SECOND FORM. 'bulk': how many values and letters a reading holds, each counted each time it is reached (what is shared counts as often as it is met; a slice's spare places count too). A statement '..UptoSaid' is the law's where the arguments, and the package variables that the reading takes, are together of bulk at most 1048576: NARROWER than '..Said'. Prove '..Said' where nothing that the law and all that it calls make is longer than what came in: it says more and counts as full. Else prove '..UptoSaid'. A law counts once. -/
mutual
def uptoBulk {H : Type} : DataW H → Nat
  | .lit (.string bytes) => bytes.length + 1
  | .lit _ => 1
  | .nil => 1
  | .ptr d => uptoBulk d + 1
  | .slice elems spare => uptoBulkAll elems + uptoBulkAll spare + 1
  | .agg parts => uptoBulkAll parts + 1
  | .iface _ d => uptoBulk d + 1
  | .map entries => uptoBulkEntries entries + 1
  | .held _ => 1
def uptoBulkAll {H : Type} : List (DataW H) → Nat
  | [] => 0
  | d :: r => uptoBulk d + uptoBulkAll r
def uptoBulkEntries {H : Type} : List (Lit × DataW H) → Nat
  | [] => 0
  | x :: r => uptoBulkEntry x + uptoBulkEntries r
def uptoBulkEntry {H : Type} : Lit × DataW H → Nat
  | (.string bytes, d) => bytes.length + uptoBulk d + 1
  | (_, d) => uptoBulk d + 1
 end
def uptoSmall : (H : Type) → List (DataW H) → Bool := fun _ ds => decide (uptoBulkAll ds ≤ 1048576)
def OpenSpec.upto (s : _root_.Go.ChangeSpec) : _root_.Go.OpenSpec := { _root_.Go.OpenSpec.ofChange s with cond := some uptoSmall }

/-- 'laws.FnPartitionAlike', WHERE WHAT IT READS IS OF BULK AT MOST 1048576: true; the input reads as it did. -/
def fnPartitionAlikeUptoRow : OpenClaim := { program := "yteepnepebilckaagreatdoor", sum := "e551bebbe60605e881d1d781c36eb75cd8cdfce0e4ce5f5bdb1d20f824a8fa6b", func := "loop.example/pub-passesoverblocks/laws.FnPartitionAlike", spec := "fnPartitionAlike", unfollowed := true, recurses := true, named := ["loop.example/pub-passesoverblocks/pub/ssapasses.opcodeTable"], apart := false, laid := [("loop.example/pub-passesoverblocks/pub/ssapasses.opcodeTable", laid_loop_example_pub_passesoverblocks_pub_ssapasses_opcodeTable)], narrowed := true }
def FnPartitionAlikeUptoSaid : Prop := fnPartitionAlikeUptoRow.holds Tryz.pinned (OpenSpec.upto fnPartitionAlikeSpec)

/-- 'laws.FnPartitionMost', WHERE WHAT IT READS IS OF BULK AT MOST 1048576: true; the input reads as it did. -/
def fnPartitionMostUptoRow : OpenClaim := { program := "yteepnepebilckaagreatdoor", sum := "e551bebbe60605e881d1d781c36eb75cd8cdfce0e4ce5f5bdb1d20f824a8fa6b", func := "loop.example/pub-passesoverblocks/laws.FnPartitionMost", spec := "fnPartitionMost", unfollowed := true, recurses := true, named := ["loop.example/pub-passesoverblocks/pub/ssapasses.opcodeTable"], apart := false, laid := [("loop.example/pub-passesoverblocks/pub/ssapasses.opcodeTable", laid_loop_example_pub_passesoverblocks_pub_ssapasses_opcodeTable)], narrowed := true }
def FnPartitionMostUptoSaid : Prop := fnPartitionMostUptoRow.holds Tryz.pinned (OpenSpec.upto fnPartitionMostSpec)

/-- 'laws.FnCseRuns', WHERE WHAT IT READS IS OF BULK AT MOST 1048576: true; the input reads as it did. -/
def fnCseRunsUptoRow : OpenClaim := { program := "yteepnepebilckaagreatdoor", sum := "e551bebbe60605e881d1d781c36eb75cd8cdfce0e4ce5f5bdb1d20f824a8fa6b", func := "loop.example/pub-passesoverblocks/laws.FnCseRuns", spec := "fnCseRuns", unfollowed := true, recurses := true, named := ["loop.example/pub-passesoverblocks/pub/ssapasses.opcodeTable"], apart := false, laid := [("loop.example/pub-passesoverblocks/pub/ssapasses.opcodeTable", laid_loop_example_pub_passesoverblocks_pub_ssapasses_opcodeTable)], narrowed := true }
def FnCseRunsUptoSaid : Prop := fnCseRunsUptoRow.holds Tryz.pinned (OpenSpec.upto fnCseRunsSpec)

/-- 'laws.FnCseOver', WHERE WHAT IT READS IS OF BULK AT MOST 1048576: true; the input reads as it did. -/
def fnCseOverUptoRow : OpenClaim := { program := "yteepnepebilckaagreatdoor", sum := "e551bebbe60605e881d1d781c36eb75cd8cdfce0e4ce5f5bdb1d20f824a8fa6b", func := "loop.example/pub-passesoverblocks/laws.FnCseOver", spec := "fnCseOver", unfollowed := true, recurses := true, named := ["loop.example/pub-passesoverblocks/pub/ssapasses.opcodeTable"], apart := false, laid := [("loop.example/pub-passesoverblocks/pub/ssapasses.opcodeTable", laid_loop_example_pub_passesoverblocks_pub_ssapasses_opcodeTable)], narrowed := true }
def FnCseOverUptoSaid : Prop := fnCseOverUptoRow.holds Tryz.pinned (OpenSpec.upto fnCseOverSpec)

/-- 'laws.FnAllRun', WHERE WHAT IT READS IS OF BULK AT MOST 1048576: true; the input reads as it did. -/
def fnAllRunUptoRow : OpenClaim := { program := "yteepnepebilckaagreatdoor", sum := "e551bebbe60605e881d1d781c36eb75cd8cdfce0e4ce5f5bdb1d20f824a8fa6b", func := "loop.example/pub-passesoverblocks/laws.FnAllRun", spec := "fnAllRun", unfollowed := true, recurses := true, named := ["loop.example/pub-passesoverblocks/pub/ssapasses.opcodeTable"], apart := false, laid := [("loop.example/pub-passesoverblocks/pub/ssapasses.opcodeTable", laid_loop_example_pub_passesoverblocks_pub_ssapasses_opcodeTable)], narrowed := true }
def FnAllRunUptoSaid : Prop := fnAllRunUptoRow.holds Tryz.pinned (OpenSpec.upto fnAllRunSpec)

end Rows
end Go.Proofs.YteepnepebilckaaGreatDoor
