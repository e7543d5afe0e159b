/-
  No cell of these rows narrows 'for every input' (looked for: loops, veiled, ifaces, maps, wideKeys, modest, calm, conditions, laid).
  DERIVED. THE GIVEN ROWS OF THIS SEAT. 4 by the template 'for every input the law returns true; each argument reads behind the call as it read before'; 0 by the template 'total and deterministic' (their statements: YtbkodehcjhpcmaaTotals.lean).
  GIVEN WITH THE SEED: the statements are not yours to turn. If you find one false, say at which input.
  Laid BY PROGRAM, IN A SANDBOX (cutbox-rows.mjs): the forced cells as the released guide's own fill.sh prints them over the translation eea8500c4bdf1f47… (all of the seat's roots in one cut). By AI agents, Wed Nov 11 2026. No macro, syntax, notation, axiom, sorry.
-/
import Derived.Test.YtbkodehcjhpcmaaChecked
import GoSem.Claim
import GoSem.ClaimJoined
import GoSem.ClaimMapViews
import Derived.JoinedTies
import Derived.KernelRfl
namespace Go.Proofs.Ytbkodehcjhpcmaa
/- THE CELL 'sum', in the pinned program and in every row, IS THE sha256 OF THE DUMP (.gsa) THAT YtbkodehcjhpcmaaProg.lean LOADS. Nothing in Lean hashes anything: it is a label: what it is worth is what the hold of that sum in a sandbox is worth. -/
noncomputable def Try.pinned : Pinned := { name := "ytbkodehcjhpcmaa", sum := "eea8500c4bdf1f4736b0cbdb5a443db5aef3483af50e66b51acb29774fbda662", checked := Try.checked }
namespace Rows
def none {H : Type} : Left H := { results := [], args := [] }

/-- 'laws.FnBLDeepFrom': WHATEVER THE INPUT: true; the input reads as it did. -/
def fnBLDeepFromSpec : ChangeSpec := { name := "fnBLDeepFrom", fn := fun _ => fun
  | [d1, d2, d3] => { results := [.lit (.bool true)], args := [d1, d2, d3] }
  | _ => none }
def fnBLDeepFromRow : OpenClaim := { program := "ytbkodehcjhpcmaa", sum := "eea8500c4bdf1f4736b0cbdb5a443db5aef3483af50e66b51acb29774fbda662", func := "given.example/pub-spokeshave/laws.FnBLDeepFrom", spec := "fnBLDeepFrom", named := ["encoding/binary.LittleEndian"], apart := false }
def FnBLDeepFromSaid : Prop := fnBLDeepFromRow.holds Try.pinned (OpenSpec.ofChange fnBLDeepFromSpec)

/-- ITS FALSE NEIGHBOUR: 'it returns false'. Refute it at one input. -/
def fnBLDeepFromWrong : ChangeSpec := { name := "fnBLDeepFrom", fn := fun _ => fun
  | [d1, d2, d3] => { results := [.lit (.bool false)], args := [d1, d2, d3] }
  | _ => none }
def FnBLDeepFromWrongFalsely : Prop := fnBLDeepFromRow.holds Try.pinned (OpenSpec.ofChange fnBLDeepFromWrong)

/-- 'laws.FnBLDeepTwice': WHATEVER THE INPUT: true; the input reads as it did. -/
def fnBLDeepTwiceSpec : ChangeSpec := { name := "fnBLDeepTwice", fn := fun _ => fun
  | [d1, d2, d3, d4] => { results := [.lit (.bool true)], args := [d1, d2, d3, d4] }
  | _ => none }
def fnBLDeepTwiceRow : OpenClaim := { program := "ytbkodehcjhpcmaa", sum := "eea8500c4bdf1f4736b0cbdb5a443db5aef3483af50e66b51acb29774fbda662", func := "given.example/pub-spokeshave/laws.FnBLDeepTwice", spec := "fnBLDeepTwice", named := ["encoding/binary.LittleEndian"], apart := false }
def FnBLDeepTwiceSaid : Prop := fnBLDeepTwiceRow.holds Try.pinned (OpenSpec.ofChange fnBLDeepTwiceSpec)

/-- ITS FALSE NEIGHBOUR: 'it returns false'. Refute it at one input. -/
def fnBLDeepTwiceWrong : ChangeSpec := { name := "fnBLDeepTwice", fn := fun _ => fun
  | [d1, d2, d3, d4] => { results := [.lit (.bool false)], args := [d1, d2, d3, d4] }
  | _ => none }
def FnBLDeepTwiceWrongFalsely : Prop := fnBLDeepTwiceRow.holds Try.pinned (OpenSpec.ofChange fnBLDeepTwiceWrong)

/-- 'laws.FnBLDeepMerge': WHATEVER THE INPUT: true; the input reads as it did. -/
def fnBLDeepMergeSpec : ChangeSpec := { name := "fnBLDeepMerge", fn := fun _ => fun
  | [d1, d2, d3, d4, d5] => { results := [.lit (.bool true)], args := [d1, d2, d3, d4, d5] }
  | _ => none }
def fnBLDeepMergeRow : OpenClaim := { program := "ytbkodehcjhpcmaa", sum := "eea8500c4bdf1f4736b0cbdb5a443db5aef3483af50e66b51acb29774fbda662", func := "given.example/pub-spokeshave/laws.FnBLDeepMerge", spec := "fnBLDeepMerge", named := ["encoding/binary.LittleEndian"], apart := false }
def FnBLDeepMergeSaid : Prop := fnBLDeepMergeRow.holds Try.pinned (OpenSpec.ofChange fnBLDeepMergeSpec)

/-- ITS FALSE NEIGHBOUR: 'it returns false'. Refute it at one input. -/
def fnBLDeepMergeWrong : ChangeSpec := { name := "fnBLDeepMerge", fn := fun _ => fun
  | [d1, d2, d3, d4, d5] => { results := [.lit (.bool false)], args := [d1, d2, d3, d4, d5] }
  | _ => none }
def FnBLDeepMergeWrongFalsely : Prop := fnBLDeepMergeRow.holds Try.pinned (OpenSpec.ofChange fnBLDeepMergeWrong)

/-- 'laws.FnBLDeepFew': WHATEVER THE INPUT: true; the input reads as it did. -/
def fnBLDeepFewSpec : ChangeSpec := { name := "fnBLDeepFew", fn := fun _ => fun
  | [d1, d2, d3, d4] => { results := [.lit (.bool true)], args := [d1, d2, d3, d4] }
  | _ => none }
def fnBLDeepFewRow : OpenClaim := { program := "ytbkodehcjhpcmaa", sum := "eea8500c4bdf1f4736b0cbdb5a443db5aef3483af50e66b51acb29774fbda662", func := "given.example/pub-spokeshave/laws.FnBLDeepFew", spec := "fnBLDeepFew", unfollowed := true, recurses := true, named := ["encoding/binary.LittleEndian"], apart := false }
def FnBLDeepFewSaid : Prop := fnBLDeepFewRow.holds Try.pinned (OpenSpec.ofChange fnBLDeepFewSpec)

/-- ITS FALSE NEIGHBOUR: 'it returns false'. Refute it at one input. -/
def fnBLDeepFewWrong : ChangeSpec := { name := "fnBLDeepFew", fn := fun _ => fun
  | [d1, d2, d3, d4] => { results := [.lit (.bool false)], args := [d1, d2, d3, d4] }
  | _ => none }
def FnBLDeepFewWrongFalsely : Prop := fnBLDeepFewRow.holds Try.pinned (OpenSpec.ofChange fnBLDeepFewWrong)

/- THE SECOND FORM. 'bulk': how many values and letters a reading holds, each counted each time it is reached (what is shared counts as often as it is met; a slice's spare places count too). A statement '..UptoSaid' is the law's where the arguments, and the package variables that the reading takes, are together of bulk at most 1048576: NARROWER than '..Said'. Prove '..Said' where nothing that the law and all that it calls make is longer than what came in: it says more and counts as full. Else prove '..UptoSaid'. A law counts once. -/
mutual
def uptoBulk {H : Type} : DataW H → Nat
  | .lit (.string bytes) => bytes.length + 1
  | .lit _ => 1
  | .nil => 1
  | .ptr d => uptoBulk d + 1
  | .slice elems spare => uptoBulkAll elems + uptoBulkAll spare + 1
  | .agg parts => uptoBulkAll parts + 1
  | .iface _ d => uptoBulk d + 1
  | .map entries => uptoBulkEntries entries + 1
  | .held _ => 1
def uptoBulkAll {H : Type} : List (DataW H) → Nat
  | [] => 0
  | d :: r => uptoBulk d + uptoBulkAll r
def uptoBulkEntries {H : Type} : List (Lit × DataW H) → Nat
  | [] => 0
  | x :: r => uptoBulkEntry x + uptoBulkEntries r
def uptoBulkEntry {H : Type} : Lit × DataW H → Nat
  | (.string bytes, d) => bytes.length + uptoBulk d + 1
  | (_, d) => uptoBulk d + 1
 end
def uptoSmall : (H : Type) → List (DataW H) → Bool := fun _ ds => decide (uptoBulkAll ds ≤ 1048576)
def OpenSpec.upto (s : _root_.Go.ChangeSpec) : _root_.Go.OpenSpec := { _root_.Go.OpenSpec.ofChange s with cond := some uptoSmall }

/-- 'laws.FnBLDeepFrom', WHERE WHAT IT READS IS OF BULK AT MOST 1048576: true; the input reads as it did. -/
def fnBLDeepFromUptoRow : OpenClaim := { program := "ytbkodehcjhpcmaa", sum := "eea8500c4bdf1f4736b0cbdb5a443db5aef3483af50e66b51acb29774fbda662", func := "given.example/pub-spokeshave/laws.FnBLDeepFrom", spec := "fnBLDeepFrom", named := ["encoding/binary.LittleEndian"], apart := false, narrowed := true }
def FnBLDeepFromUptoSaid : Prop := fnBLDeepFromUptoRow.holds Try.pinned (OpenSpec.upto fnBLDeepFromSpec)

/-- 'laws.FnBLDeepTwice', WHERE WHAT IT READS IS OF BULK AT MOST 1048576: true; the input reads as it did. -/
def fnBLDeepTwiceUptoRow : OpenClaim := { program := "ytbkodehcjhpcmaa", sum := "eea8500c4bdf1f4736b0cbdb5a443db5aef3483af50e66b51acb29774fbda662", func := "given.example/pub-spokeshave/laws.FnBLDeepTwice", spec := "fnBLDeepTwice", named := ["encoding/binary.LittleEndian"], apart := false, narrowed := true }
def FnBLDeepTwiceUptoSaid : Prop := fnBLDeepTwiceUptoRow.holds Try.pinned (OpenSpec.upto fnBLDeepTwiceSpec)

/-- 'laws.FnBLDeepMerge', WHERE WHAT IT READS IS OF BULK AT MOST 1048576: true; the input reads as it did. -/
def fnBLDeepMergeUptoRow : OpenClaim := { program := "ytbkodehcjhpcmaa", sum := "eea8500c4bdf1f4736b0cbdb5a443db5aef3483af50e66b51acb29774fbda662", func := "given.example/pub-spokeshave/laws.FnBLDeepMerge", spec := "fnBLDeepMerge", named := ["encoding/binary.LittleEndian"], apart := false, narrowed := true }
def FnBLDeepMergeUptoSaid : Prop := fnBLDeepMergeUptoRow.holds Try.pinned (OpenSpec.upto fnBLDeepMergeSpec)

/-- 'laws.FnBLDeepFew', WHERE WHAT IT READS IS OF BULK AT MOST 1048576: true; the input reads as it did. -/
def fnBLDeepFewUptoRow : OpenClaim := { program := "ytbkodehcjhpcmaa", sum := "eea8500c4bdf1f4736b0cbdb5a443db5aef3483af50e66b51acb29774fbda662", func := "given.example/pub-spokeshave/laws.FnBLDeepFew", spec := "fnBLDeepFew", unfollowed := true, recurses := true, named := ["encoding/binary.LittleEndian"], apart := false, narrowed := true }
def FnBLDeepFewUptoSaid : Prop := fnBLDeepFewUptoRow.holds Try.pinned (OpenSpec.upto fnBLDeepFewSpec)

end Rows
end Go.Proofs.Ytbkodehcjhpcmaa
