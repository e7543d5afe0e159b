/-
  No cell of these rows narrows 'for every input' (looked for: loops, veiled, ifaces, maps, wideKeys, modest, calm, conditions, laid).
  DERIVED. THE GIVEN ROWS OF THIS SEAT. 9 by the template 'for every input the law returns true; each argument reads behind the call as it read before'; 0 by the template 'total and deterministic' (their statements: YtpmnpaannbhoeaaTotals.lean).
  GIVEN WITH THE SEED: the statements are not yours to turn. If you find one false, say at which input.
  Laid BY PROGRAM, IN A SANDBOX (cutbox-rows.mjs): the forced cells as the released guide's own fill.sh prints them over the translation 93a3b96aacc8f90b… (all of the seat's roots in one cut). By AI agents, Wed Nov 11 2026. No macro, syntax, notation, axiom, sorry.
-/
import Derived.Test.YtpmnpaannbhoeaaChecked
import GoSem.Claim
import GoSem.ClaimJoined
import GoSem.ClaimMapViews
import Derived.JoinedTies
import Derived.KernelRfl
namespace Go.Proofs.Ytpmnpaannbhoeaa
/- THE CELL 'sum', in the pinned program and in every row, IS THE sha256 OF THE DUMP (.gsa) THAT YtpmnpaannbhoeaaProg.lean LOADS. Nothing in Lean hashes anything: it is a label: what it is worth is what the hold of that sum in a sandbox is worth. -/
noncomputable def Try.pinned : Pinned := { name := "ytpmnpaannbhoeaa", sum := "93a3b96aacc8f90bb329ab62783d4cf1e1eafec10ba9212d629252745f473cea", checked := Try.checked }
namespace Rows
def none {H : Type} : Left H := { results := [], args := [] }

/-- 'laws.FnBSDeepShrink': WHATEVER THE INPUT: true; the input reads as it did. -/
def fnBSDeepShrinkSpec : ChangeSpec := { name := "fnBSDeepShrink", fn := fun _ => fun
  | [d1, d2] => { results := [.lit (.bool true)], args := [d1, d2] }
  | _ => none }
def fnBSDeepShrinkRow : OpenClaim := { program := "ytpmnpaannbhoeaa", sum := "93a3b96aacc8f90bb329ab62783d4cf1e1eafec10ba9212d629252745f473cea", func := "given.example/pub-spokeshave/laws.FnBSDeepShrink", spec := "fnBSDeepShrink", unfollowed := true, recurses := true, apart := false }
def FnBSDeepShrinkSaid : Prop := fnBSDeepShrinkRow.holds Try.pinned (OpenSpec.ofChange fnBSDeepShrinkSpec)

/-- ITS FALSE NEIGHBOUR: 'it returns false'. Refute it at one input. -/
def fnBSDeepShrinkWrong : ChangeSpec := { name := "fnBSDeepShrink", fn := fun _ => fun
  | [d1, d2] => { results := [.lit (.bool false)], args := [d1, d2] }
  | _ => none }
def FnBSDeepShrinkWrongFalsely : Prop := fnBSDeepShrinkRow.holds Try.pinned (OpenSpec.ofChange fnBSDeepShrinkWrong)

/-- 'laws.FnBSDeepWords': WHATEVER THE INPUT: true; the input reads as it did. -/
def fnBSDeepWordsSpec : ChangeSpec := { name := "fnBSDeepWords", fn := fun _ => fun
  | [d1, d2, d3] => { results := [.lit (.bool true)], args := [d1, d2, d3] }
  | _ => none }
def fnBSDeepWordsRow : OpenClaim := { program := "ytpmnpaannbhoeaa", sum := "93a3b96aacc8f90bb329ab62783d4cf1e1eafec10ba9212d629252745f473cea", func := "given.example/pub-spokeshave/laws.FnBSDeepWords", spec := "fnBSDeepWords", unfollowed := true, recurses := true, apart := false }
def FnBSDeepWordsSaid : Prop := fnBSDeepWordsRow.holds Try.pinned (OpenSpec.ofChange fnBSDeepWordsSpec)

/-- ITS FALSE NEIGHBOUR: 'it returns false'. Refute it at one input. -/
def fnBSDeepWordsWrong : ChangeSpec := { name := "fnBSDeepWords", fn := fun _ => fun
  | [d1, d2, d3] => { results := [.lit (.bool false)], args := [d1, d2, d3] }
  | _ => none }
def FnBSDeepWordsWrongFalsely : Prop := fnBSDeepWordsRow.holds Try.pinned (OpenSpec.ofChange fnBSDeepWordsWrong)

/-- 'laws.FnBSDeepCounts': WHATEVER THE INPUT: true; the input reads as it did. -/
def fnBSDeepCountsSpec : ChangeSpec := { name := "fnBSDeepCounts", fn := fun _ => fun
  | [d1, d2] => { results := [.lit (.bool true)], args := [d1, d2] }
  | _ => none }
def fnBSDeepCountsRow : OpenClaim := { program := "ytpmnpaannbhoeaa", sum := "93a3b96aacc8f90bb329ab62783d4cf1e1eafec10ba9212d629252745f473cea", func := "given.example/pub-spokeshave/laws.FnBSDeepCounts", spec := "fnBSDeepCounts", unfollowed := true, recurses := true, apart := false }
def FnBSDeepCountsSaid : Prop := fnBSDeepCountsRow.holds Try.pinned (OpenSpec.ofChange fnBSDeepCountsSpec)

/-- ITS FALSE NEIGHBOUR: 'it returns false'. Refute it at one input. -/
def fnBSDeepCountsWrong : ChangeSpec := { name := "fnBSDeepCounts", fn := fun _ => fun
  | [d1, d2] => { results := [.lit (.bool false)], args := [d1, d2] }
  | _ => none }
def FnBSDeepCountsWrongFalsely : Prop := fnBSDeepCountsRow.holds Try.pinned (OpenSpec.ofChange fnBSDeepCountsWrong)

/-- 'laws.FnBSDeepInsert': WHATEVER THE INPUT: true; the input reads as it did. -/
def fnBSDeepInsertSpec : ChangeSpec := { name := "fnBSDeepInsert", fn := fun _ => fun
  | [d1, d2, d3] => { results := [.lit (.bool true)], args := [d1, d2, d3] }
  | _ => none }
def fnBSDeepInsertRow : OpenClaim := { program := "ytpmnpaannbhoeaa", sum := "93a3b96aacc8f90bb329ab62783d4cf1e1eafec10ba9212d629252745f473cea", func := "given.example/pub-spokeshave/laws.FnBSDeepInsert", spec := "fnBSDeepInsert", unfollowed := true, recurses := true, apart := false }
def FnBSDeepInsertSaid : Prop := fnBSDeepInsertRow.holds Try.pinned (OpenSpec.ofChange fnBSDeepInsertSpec)

/-- ITS FALSE NEIGHBOUR: 'it returns false'. Refute it at one input. -/
def fnBSDeepInsertWrong : ChangeSpec := { name := "fnBSDeepInsert", fn := fun _ => fun
  | [d1, d2, d3] => { results := [.lit (.bool false)], args := [d1, d2, d3] }
  | _ => none }
def FnBSDeepInsertWrongFalsely : Prop := fnBSDeepInsertRow.holds Try.pinned (OpenSpec.ofChange fnBSDeepInsertWrong)

/-- 'laws.FnBSDeepSwap': WHATEVER THE INPUT: true; the input reads as it did. -/
def fnBSDeepSwapSpec : ChangeSpec := { name := "fnBSDeepSwap", fn := fun _ => fun
  | [d1, d2, d3] => { results := [.lit (.bool true)], args := [d1, d2, d3] }
  | _ => none }
def fnBSDeepSwapRow : OpenClaim := { program := "ytpmnpaannbhoeaa", sum := "93a3b96aacc8f90bb329ab62783d4cf1e1eafec10ba9212d629252745f473cea", func := "given.example/pub-spokeshave/laws.FnBSDeepSwap", spec := "fnBSDeepSwap", unfollowed := true, recurses := true, apart := false }
def FnBSDeepSwapSaid : Prop := fnBSDeepSwapRow.holds Try.pinned (OpenSpec.ofChange fnBSDeepSwapSpec)

/-- ITS FALSE NEIGHBOUR: 'it returns false'. Refute it at one input. -/
def fnBSDeepSwapWrong : ChangeSpec := { name := "fnBSDeepSwap", fn := fun _ => fun
  | [d1, d2, d3] => { results := [.lit (.bool false)], args := [d1, d2, d3] }
  | _ => none }
def FnBSDeepSwapWrongFalsely : Prop := fnBSDeepSwapRow.holds Try.pinned (OpenSpec.ofChange fnBSDeepSwapWrong)

/-- 'laws.FnBSDeepClears': WHATEVER THE INPUT: true; the input reads as it did. -/
def fnBSDeepClearsSpec : ChangeSpec := { name := "fnBSDeepClears", fn := fun _ => fun
  | [d1, d2, d3] => { results := [.lit (.bool true)], args := [d1, d2, d3] }
  | _ => none }
def fnBSDeepClearsRow : OpenClaim := { program := "ytpmnpaannbhoeaa", sum := "93a3b96aacc8f90bb329ab62783d4cf1e1eafec10ba9212d629252745f473cea", func := "given.example/pub-spokeshave/laws.FnBSDeepClears", spec := "fnBSDeepClears", unfollowed := true, recurses := true, apart := false }
def FnBSDeepClearsSaid : Prop := fnBSDeepClearsRow.holds Try.pinned (OpenSpec.ofChange fnBSDeepClearsSpec)

/-- ITS FALSE NEIGHBOUR: 'it returns false'. Refute it at one input. -/
def fnBSDeepClearsWrong : ChangeSpec := { name := "fnBSDeepClears", fn := fun _ => fun
  | [d1, d2, d3] => { results := [.lit (.bool false)], args := [d1, d2, d3] }
  | _ => none }
def FnBSDeepClearsWrongFalsely : Prop := fnBSDeepClearsRow.holds Try.pinned (OpenSpec.ofChange fnBSDeepClearsWrong)

/-- 'laws.FnBSDeepParts': WHATEVER THE INPUT: true; the input reads as it did. -/
def fnBSDeepPartsSpec : ChangeSpec := { name := "fnBSDeepParts", fn := fun _ => fun
  | [d1, d2, d3, d4] => { results := [.lit (.bool true)], args := [d1, d2, d3, d4] }
  | _ => none }
def fnBSDeepPartsRow : OpenClaim := { program := "ytpmnpaannbhoeaa", sum := "93a3b96aacc8f90bb329ab62783d4cf1e1eafec10ba9212d629252745f473cea", func := "given.example/pub-spokeshave/laws.FnBSDeepParts", spec := "fnBSDeepParts", unfollowed := true, recurses := true, apart := false }
def FnBSDeepPartsSaid : Prop := fnBSDeepPartsRow.holds Try.pinned (OpenSpec.ofChange fnBSDeepPartsSpec)

/-- ITS FALSE NEIGHBOUR: 'it returns false'. Refute it at one input. -/
def fnBSDeepPartsWrong : ChangeSpec := { name := "fnBSDeepParts", fn := fun _ => fun
  | [d1, d2, d3, d4] => { results := [.lit (.bool false)], args := [d1, d2, d3, d4] }
  | _ => none }
def FnBSDeepPartsWrongFalsely : Prop := fnBSDeepPartsRow.holds Try.pinned (OpenSpec.ofChange fnBSDeepPartsWrong)

/-- 'laws.FnBSDeepShift': WHATEVER THE INPUT: true; the input reads as it did. -/
def fnBSDeepShiftSpec : ChangeSpec := { name := "fnBSDeepShift", fn := fun _ => fun
  | [d1, d2, d3, d4] => { results := [.lit (.bool true)], args := [d1, d2, d3, d4] }
  | _ => none }
def fnBSDeepShiftRow : OpenClaim := { program := "ytpmnpaannbhoeaa", sum := "93a3b96aacc8f90bb329ab62783d4cf1e1eafec10ba9212d629252745f473cea", func := "given.example/pub-spokeshave/laws.FnBSDeepShift", spec := "fnBSDeepShift", unfollowed := true, recurses := true, apart := false }
def FnBSDeepShiftSaid : Prop := fnBSDeepShiftRow.holds Try.pinned (OpenSpec.ofChange fnBSDeepShiftSpec)

/-- ITS FALSE NEIGHBOUR: 'it returns false'. Refute it at one input. -/
def fnBSDeepShiftWrong : ChangeSpec := { name := "fnBSDeepShift", fn := fun _ => fun
  | [d1, d2, d3, d4] => { results := [.lit (.bool false)], args := [d1, d2, d3, d4] }
  | _ => none }
def FnBSDeepShiftWrongFalsely : Prop := fnBSDeepShiftRow.holds Try.pinned (OpenSpec.ofChange fnBSDeepShiftWrong)

/-- 'laws.FnBSDeepSelf': WHATEVER THE INPUT: true; the input reads as it did. -/
def fnBSDeepSelfSpec : ChangeSpec := { name := "fnBSDeepSelf", fn := fun _ => fun
  | [d1, d2] => { results := [.lit (.bool true)], args := [d1, d2] }
  | _ => none }
def fnBSDeepSelfRow : OpenClaim := { program := "ytpmnpaannbhoeaa", sum := "93a3b96aacc8f90bb329ab62783d4cf1e1eafec10ba9212d629252745f473cea", func := "given.example/pub-spokeshave/laws.FnBSDeepSelf", spec := "fnBSDeepSelf", unfollowed := true, recurses := true, apart := false }
def FnBSDeepSelfSaid : Prop := fnBSDeepSelfRow.holds Try.pinned (OpenSpec.ofChange fnBSDeepSelfSpec)

/-- ITS FALSE NEIGHBOUR: 'it returns false'. Refute it at one input. -/
def fnBSDeepSelfWrong : ChangeSpec := { name := "fnBSDeepSelf", fn := fun _ => fun
  | [d1, d2] => { results := [.lit (.bool false)], args := [d1, d2] }
  | _ => none }
def FnBSDeepSelfWrongFalsely : Prop := fnBSDeepSelfRow.holds Try.pinned (OpenSpec.ofChange fnBSDeepSelfWrong)

/- THE SECOND FORM. 'bulk': how many values and letters a reading holds, each counted each time it is reached (what is shared counts as often as it is met; a slice's spare places count too). A statement '..UptoSaid' is the law's where the arguments, and the package variables that the reading takes, are together of bulk at most 1048576: NARROWER than '..Said'. Prove '..Said' where nothing that the law and all that it calls make is longer than what came in: it says more and counts as full. Else prove '..UptoSaid'. A law counts once. -/
mutual
def uptoBulk {H : Type} : DataW H → Nat
  | .lit (.string bytes) => bytes.length + 1
  | .lit _ => 1
  | .nil => 1
  | .ptr d => uptoBulk d + 1
  | .slice elems spare => uptoBulkAll elems + uptoBulkAll spare + 1
  | .agg parts => uptoBulkAll parts + 1
  | .iface _ d => uptoBulk d + 1
  | .map entries => uptoBulkEntries entries + 1
  | .held _ => 1
def uptoBulkAll {H : Type} : List (DataW H) → Nat
  | [] => 0
  | d :: r => uptoBulk d + uptoBulkAll r
def uptoBulkEntries {H : Type} : List (Lit × DataW H) → Nat
  | [] => 0
  | x :: r => uptoBulkEntry x + uptoBulkEntries r
def uptoBulkEntry {H : Type} : Lit × DataW H → Nat
  | (.string bytes, d) => bytes.length + uptoBulk d + 1
  | (_, d) => uptoBulk d + 1
 end
def uptoSmall : (H : Type) → List (DataW H) → Bool := fun _ ds => decide (uptoBulkAll ds ≤ 1048576)
def OpenSpec.upto (s : _root_.Go.ChangeSpec) : _root_.Go.OpenSpec := { _root_.Go.OpenSpec.ofChange s with cond := some uptoSmall }

/-- 'laws.FnBSDeepShrink', WHERE WHAT IT READS IS OF BULK AT MOST 1048576: true; the input reads as it did. -/
def fnBSDeepShrinkUptoRow : OpenClaim := { program := "ytpmnpaannbhoeaa", sum := "93a3b96aacc8f90bb329ab62783d4cf1e1eafec10ba9212d629252745f473cea", func := "given.example/pub-spokeshave/laws.FnBSDeepShrink", spec := "fnBSDeepShrink", unfollowed := true, recurses := true, apart := false, narrowed := true }
def FnBSDeepShrinkUptoSaid : Prop := fnBSDeepShrinkUptoRow.holds Try.pinned (OpenSpec.upto fnBSDeepShrinkSpec)

/-- 'laws.FnBSDeepWords', WHERE WHAT IT READS IS OF BULK AT MOST 1048576: true; the input reads as it did. -/
def fnBSDeepWordsUptoRow : OpenClaim := { program := "ytpmnpaannbhoeaa", sum := "93a3b96aacc8f90bb329ab62783d4cf1e1eafec10ba9212d629252745f473cea", func := "given.example/pub-spokeshave/laws.FnBSDeepWords", spec := "fnBSDeepWords", unfollowed := true, recurses := true, apart := false, narrowed := true }
def FnBSDeepWordsUptoSaid : Prop := fnBSDeepWordsUptoRow.holds Try.pinned (OpenSpec.upto fnBSDeepWordsSpec)

/-- 'laws.FnBSDeepCounts', WHERE WHAT IT READS IS OF BULK AT MOST 1048576: true; the input reads as it did. -/
def fnBSDeepCountsUptoRow : OpenClaim := { program := "ytpmnpaannbhoeaa", sum := "93a3b96aacc8f90bb329ab62783d4cf1e1eafec10ba9212d629252745f473cea", func := "given.example/pub-spokeshave/laws.FnBSDeepCounts", spec := "fnBSDeepCounts", unfollowed := true, recurses := true, apart := false, narrowed := true }
def FnBSDeepCountsUptoSaid : Prop := fnBSDeepCountsUptoRow.holds Try.pinned (OpenSpec.upto fnBSDeepCountsSpec)

/-- 'laws.FnBSDeepInsert', WHERE WHAT IT READS IS OF BULK AT MOST 1048576: true; the input reads as it did. -/
def fnBSDeepInsertUptoRow : OpenClaim := { program := "ytpmnpaannbhoeaa", sum := "93a3b96aacc8f90bb329ab62783d4cf1e1eafec10ba9212d629252745f473cea", func := "given.example/pub-spokeshave/laws.FnBSDeepInsert", spec := "fnBSDeepInsert", unfollowed := true, recurses := true, apart := false, narrowed := true }
def FnBSDeepInsertUptoSaid : Prop := fnBSDeepInsertUptoRow.holds Try.pinned (OpenSpec.upto fnBSDeepInsertSpec)

/-- 'laws.FnBSDeepSwap', WHERE WHAT IT READS IS OF BULK AT MOST 1048576: true; the input reads as it did. -/
def fnBSDeepSwapUptoRow : OpenClaim := { program := "ytpmnpaannbhoeaa", sum := "93a3b96aacc8f90bb329ab62783d4cf1e1eafec10ba9212d629252745f473cea", func := "given.example/pub-spokeshave/laws.FnBSDeepSwap", spec := "fnBSDeepSwap", unfollowed := true, recurses := true, apart := false, narrowed := true }
def FnBSDeepSwapUptoSaid : Prop := fnBSDeepSwapUptoRow.holds Try.pinned (OpenSpec.upto fnBSDeepSwapSpec)

/-- 'laws.FnBSDeepClears', WHERE WHAT IT READS IS OF BULK AT MOST 1048576: true; the input reads as it did. -/
def fnBSDeepClearsUptoRow : OpenClaim := { program := "ytpmnpaannbhoeaa", sum := "93a3b96aacc8f90bb329ab62783d4cf1e1eafec10ba9212d629252745f473cea", func := "given.example/pub-spokeshave/laws.FnBSDeepClears", spec := "fnBSDeepClears", unfollowed := true, recurses := true, apart := false, narrowed := true }
def FnBSDeepClearsUptoSaid : Prop := fnBSDeepClearsUptoRow.holds Try.pinned (OpenSpec.upto fnBSDeepClearsSpec)

/-- 'laws.FnBSDeepParts', WHERE WHAT IT READS IS OF BULK AT MOST 1048576: true; the input reads as it did. -/
def fnBSDeepPartsUptoRow : OpenClaim := { program := "ytpmnpaannbhoeaa", sum := "93a3b96aacc8f90bb329ab62783d4cf1e1eafec10ba9212d629252745f473cea", func := "given.example/pub-spokeshave/laws.FnBSDeepParts", spec := "fnBSDeepParts", unfollowed := true, recurses := true, apart := false, narrowed := true }
def FnBSDeepPartsUptoSaid : Prop := fnBSDeepPartsUptoRow.holds Try.pinned (OpenSpec.upto fnBSDeepPartsSpec)

/-- 'laws.FnBSDeepShift', WHERE WHAT IT READS IS OF BULK AT MOST 1048576: true; the input reads as it did. -/
def fnBSDeepShiftUptoRow : OpenClaim := { program := "ytpmnpaannbhoeaa", sum := "93a3b96aacc8f90bb329ab62783d4cf1e1eafec10ba9212d629252745f473cea", func := "given.example/pub-spokeshave/laws.FnBSDeepShift", spec := "fnBSDeepShift", unfollowed := true, recurses := true, apart := false, narrowed := true }
def FnBSDeepShiftUptoSaid : Prop := fnBSDeepShiftUptoRow.holds Try.pinned (OpenSpec.upto fnBSDeepShiftSpec)

/-- 'laws.FnBSDeepSelf', WHERE WHAT IT READS IS OF BULK AT MOST 1048576: true; the input reads as it did. -/
def fnBSDeepSelfUptoRow : OpenClaim := { program := "ytpmnpaannbhoeaa", sum := "93a3b96aacc8f90bb329ab62783d4cf1e1eafec10ba9212d629252745f473cea", func := "given.example/pub-spokeshave/laws.FnBSDeepSelf", spec := "fnBSDeepSelf", unfollowed := true, recurses := true, apart := false, narrowed := true }
def FnBSDeepSelfUptoSaid : Prop := fnBSDeepSelfUptoRow.holds Try.pinned (OpenSpec.upto fnBSDeepSelfSpec)

end Rows
end Go.Proofs.Ytpmnpaannbhoeaa
