/-
  No cell of these rows narrows 'for every input' (looked for: loops, veiled, ifaces, maps, wideKeys, modest, calm, conditions, laid).
  DERIVED. THE GIVEN ROWS OF THIS SEAT. 6 by the template 'for every input the law returns true; each argument reads behind the call as it read before'; 0 by the template 'total and deterministic' (their statements: YtkjlijgeoidmiaaTotals.lean).
  GIVEN WITH THE SEED: the statements are not yours to turn. If you find one false, say at which input.
  Laid BY PROGRAM, IN A SANDBOX (cutbox-rows.mjs): the forced cells as the released guide's own fill.sh prints them over the translation cc356b99f4092119… (all of the seat's roots in one cut). By AI agents, Wed Nov 11 2026. No macro, syntax, notation, axiom, sorry.
-/
import Derived.Test.YtkjlijgeoidmiaaChecked
import GoSem.Claim
import GoSem.ClaimJoined
import GoSem.ClaimMapViews
import Derived.JoinedTies
import Derived.KernelRfl
namespace Go.Proofs.Ytkjlijgeoidmiaa
/- THE CELL 'sum', in the pinned program and in every row, IS THE sha256 OF THE DUMP (.gsa) THAT YtkjlijgeoidmiaaProg.lean LOADS. Nothing in Lean hashes anything: it is a label: what it is worth is what the hold of that sum in a sandbox is worth. -/
noncomputable def Try.pinned : Pinned := { name := "ytkjlijgeoidmiaa", sum := "cc356b99f4092119a03b66c766c8ab4b4bf650d05d69ef66df2e641000261905", checked := Try.checked }
namespace Rows
def none {H : Type} : Left H := { results := [], args := [] }

/-- 'laws.FnISTwo': WHATEVER THE INPUT: true; the input reads as it did. -/
def fnISTwoSpec : ChangeSpec := { name := "fnISTwo", fn := fun _ => fun
  | [d1, d2, d3] => { results := [.lit (.bool true)], args := [d1, d2, d3] }
  | _ => none }
def fnISTwoRow : OpenClaim := { program := "ytkjlijgeoidmiaa", sum := "cc356b99f4092119a03b66c766c8ab4b4bf650d05d69ef66df2e641000261905", func := "given.example/pub-spokeshave/laws.FnISTwo", spec := "fnISTwo", unfollowed := true, recurses := true, apart := false }
def FnISTwoSaid : Prop := fnISTwoRow.holds Try.pinned (OpenSpec.ofChange fnISTwoSpec)

/-- ITS FALSE NEIGHBOUR: 'it returns false'. Refute it at one input. -/
def fnISTwoWrong : ChangeSpec := { name := "fnISTwo", fn := fun _ => fun
  | [d1, d2, d3] => { results := [.lit (.bool false)], args := [d1, d2, d3] }
  | _ => none }
def FnISTwoWrongFalsely : Prop := fnISTwoRow.holds Try.pinned (OpenSpec.ofChange fnISTwoWrong)

/-- 'laws.FnAVAgain': WHATEVER THE INPUT: true; the input reads as it did. -/
def fnAVAgainSpec : ChangeSpec := { name := "fnAVAgain", fn := fun _ => fun
  | [d1, d2] => { results := [.lit (.bool true)], args := [d1, d2] }
  | _ => none }
def fnAVAgainRow : OpenClaim := { program := "ytkjlijgeoidmiaa", sum := "cc356b99f4092119a03b66c766c8ab4b4bf650d05d69ef66df2e641000261905", func := "given.example/pub-spokeshave/laws.FnAVAgain", spec := "fnAVAgain", inPlace := ["math.Float64bits", "math.Float64frombits"], unfollowed := true, recurses := true, apart := false }
def FnAVAgainSaid : Prop := fnAVAgainRow.holds Try.pinned (OpenSpec.ofChange fnAVAgainSpec)

/-- ITS FALSE NEIGHBOUR: 'it returns false'. Refute it at one input. -/
def fnAVAgainWrong : ChangeSpec := { name := "fnAVAgain", fn := fun _ => fun
  | [d1, d2] => { results := [.lit (.bool false)], args := [d1, d2] }
  | _ => none }
def FnAVAgainWrongFalsely : Prop := fnAVAgainRow.holds Try.pinned (OpenSpec.ofChange fnAVAgainWrong)

/-- 'laws.FnAVGone': WHATEVER THE INPUT: true; the input reads as it did. -/
def fnAVGoneSpec : ChangeSpec := { name := "fnAVGone", fn := fun _ => fun
  | [d1, d2] => { results := [.lit (.bool true)], args := [d1, d2] }
  | _ => none }
def fnAVGoneRow : OpenClaim := { program := "ytkjlijgeoidmiaa", sum := "cc356b99f4092119a03b66c766c8ab4b4bf650d05d69ef66df2e641000261905", func := "given.example/pub-spokeshave/laws.FnAVGone", spec := "fnAVGone", inPlace := ["math.Float64bits", "math.Float64frombits"], unfollowed := true, recurses := true, apart := false }
def FnAVGoneSaid : Prop := fnAVGoneRow.holds Try.pinned (OpenSpec.ofChange fnAVGoneSpec)

/-- ITS FALSE NEIGHBOUR: 'it returns false'. Refute it at one input. -/
def fnAVGoneWrong : ChangeSpec := { name := "fnAVGone", fn := fun _ => fun
  | [d1, d2] => { results := [.lit (.bool false)], args := [d1, d2] }
  | _ => none }
def FnAVGoneWrongFalsely : Prop := fnAVGoneRow.holds Try.pinned (OpenSpec.ofChange fnAVGoneWrong)

/-- 'laws.FnAVSingly': WHATEVER THE INPUT: true; the input reads as it did. -/
def fnAVSinglySpec : ChangeSpec := { name := "fnAVSingly", fn := fun _ => fun
  | [d] => { results := [.lit (.bool true)], args := [d] }
  | _ => none }
def fnAVSinglyRow : OpenClaim := { program := "ytkjlijgeoidmiaa", sum := "cc356b99f4092119a03b66c766c8ab4b4bf650d05d69ef66df2e641000261905", func := "given.example/pub-spokeshave/laws.FnAVSingly", spec := "fnAVSingly", inPlace := ["math.Float64bits", "math.Float64frombits"], unfollowed := true, recurses := true, apart := false }
def FnAVSinglySaid : Prop := fnAVSinglyRow.holds Try.pinned (OpenSpec.ofChange fnAVSinglySpec)

/-- ITS FALSE NEIGHBOUR: 'it returns false'. Refute it at one input. -/
def fnAVSinglyWrong : ChangeSpec := { name := "fnAVSingly", fn := fun _ => fun
  | [d] => { results := [.lit (.bool false)], args := [d] }
  | _ => none }
def FnAVSinglyWrongFalsely : Prop := fnAVSinglyRow.holds Try.pinned (OpenSpec.ofChange fnAVSinglyWrong)

/-- 'laws.FnXTreeSlice': WHATEVER THE INPUT: true; the input reads as it did. -/
def fnXTreeSliceSpec : ChangeSpec := { name := "fnXTreeSlice", fn := fun _ => fun
  | [d1, d2] => { results := [.lit (.bool true)], args := [d1, d2] }
  | _ => none }
def fnXTreeSliceRow : OpenClaim := { program := "ytkjlijgeoidmiaa", sum := "cc356b99f4092119a03b66c766c8ab4b4bf650d05d69ef66df2e641000261905", func := "given.example/pub-spokeshave/laws.FnXTreeSlice", spec := "fnXTreeSlice", inPlace := ["math.Float64bits", "math.Float64frombits"], unfollowed := true, recurses := true, apart := false }
def FnXTreeSliceSaid : Prop := fnXTreeSliceRow.holds Try.pinned (OpenSpec.ofChange fnXTreeSliceSpec)

/-- ITS FALSE NEIGHBOUR: 'it returns false'. Refute it at one input. -/
def fnXTreeSliceWrong : ChangeSpec := { name := "fnXTreeSlice", fn := fun _ => fun
  | [d1, d2] => { results := [.lit (.bool false)], args := [d1, d2] }
  | _ => none }
def FnXTreeSliceWrongFalsely : Prop := fnXTreeSliceRow.holds Try.pinned (OpenSpec.ofChange fnXTreeSliceWrong)

/-- 'laws.FnMGParts': WHATEVER THE INPUT: true; the input reads as it did. -/
def fnMGPartsSpec : ChangeSpec := { name := "fnMGParts", fn := fun _ => fun
  | [d1, d2] => { results := [.lit (.bool true)], args := [d1, d2] }
  | _ => none }
def fnMGPartsRow : OpenClaim := { program := "ytkjlijgeoidmiaa", sum := "cc356b99f4092119a03b66c766c8ab4b4bf650d05d69ef66df2e641000261905", func := "given.example/pub-spokeshave/laws.FnMGParts", spec := "fnMGParts", inPlace := ["math.Float64bits", "math.Float64frombits"], unfollowed := true, recurses := true, apart := false }
def FnMGPartsSaid : Prop := fnMGPartsRow.holds Try.pinned (OpenSpec.ofChange fnMGPartsSpec)

/-- ITS FALSE NEIGHBOUR: 'it returns false'. Refute it at one input. -/
def fnMGPartsWrong : ChangeSpec := { name := "fnMGParts", fn := fun _ => fun
  | [d1, d2] => { results := [.lit (.bool false)], args := [d1, d2] }
  | _ => none }
def FnMGPartsWrongFalsely : Prop := fnMGPartsRow.holds Try.pinned (OpenSpec.ofChange fnMGPartsWrong)

/- THE SECOND FORM. 'bulk': how many values and letters a reading holds, each counted each time it is reached (what is shared counts as often as it is met; a slice's spare places count too). A statement '..UptoSaid' is the law's where the arguments, and the package variables that the reading takes, are together of bulk at most 1048576: NARROWER than '..Said'. Prove '..Said' where nothing that the law and all that it calls make is longer than what came in: it says more and counts as full. Else prove '..UptoSaid'. A law counts once. -/
mutual
def uptoBulk {H : Type} : DataW H → Nat
  | .lit (.string bytes) => bytes.length + 1
  | .lit _ => 1
  | .nil => 1
  | .ptr d => uptoBulk d + 1
  | .slice elems spare => uptoBulkAll elems + uptoBulkAll spare + 1
  | .agg parts => uptoBulkAll parts + 1
  | .iface _ d => uptoBulk d + 1
  | .map entries => uptoBulkEntries entries + 1
  | .held _ => 1
def uptoBulkAll {H : Type} : List (DataW H) → Nat
  | [] => 0
  | d :: r => uptoBulk d + uptoBulkAll r
def uptoBulkEntries {H : Type} : List (Lit × DataW H) → Nat
  | [] => 0
  | x :: r => uptoBulkEntry x + uptoBulkEntries r
def uptoBulkEntry {H : Type} : Lit × DataW H → Nat
  | (.string bytes, d) => bytes.length + uptoBulk d + 1
  | (_, d) => uptoBulk d + 1
 end
def uptoSmall : (H : Type) → List (DataW H) → Bool := fun _ ds => decide (uptoBulkAll ds ≤ 1048576)
def OpenSpec.upto (s : _root_.Go.ChangeSpec) : _root_.Go.OpenSpec := { _root_.Go.OpenSpec.ofChange s with cond := some uptoSmall }

/-- 'laws.FnISTwo', WHERE WHAT IT READS IS OF BULK AT MOST 1048576: true; the input reads as it did. -/
def fnISTwoUptoRow : OpenClaim := { program := "ytkjlijgeoidmiaa", sum := "cc356b99f4092119a03b66c766c8ab4b4bf650d05d69ef66df2e641000261905", func := "given.example/pub-spokeshave/laws.FnISTwo", spec := "fnISTwo", unfollowed := true, recurses := true, apart := false, narrowed := true }
def FnISTwoUptoSaid : Prop := fnISTwoUptoRow.holds Try.pinned (OpenSpec.upto fnISTwoSpec)

/-- 'laws.FnAVAgain', WHERE WHAT IT READS IS OF BULK AT MOST 1048576: true; the input reads as it did. -/
def fnAVAgainUptoRow : OpenClaim := { program := "ytkjlijgeoidmiaa", sum := "cc356b99f4092119a03b66c766c8ab4b4bf650d05d69ef66df2e641000261905", func := "given.example/pub-spokeshave/laws.FnAVAgain", spec := "fnAVAgain", inPlace := ["math.Float64bits", "math.Float64frombits"], unfollowed := true, recurses := true, apart := false, narrowed := true }
def FnAVAgainUptoSaid : Prop := fnAVAgainUptoRow.holds Try.pinned (OpenSpec.upto fnAVAgainSpec)

/-- 'laws.FnAVGone', WHERE WHAT IT READS IS OF BULK AT MOST 1048576: true; the input reads as it did. -/
def fnAVGoneUptoRow : OpenClaim := { program := "ytkjlijgeoidmiaa", sum := "cc356b99f4092119a03b66c766c8ab4b4bf650d05d69ef66df2e641000261905", func := "given.example/pub-spokeshave/laws.FnAVGone", spec := "fnAVGone", inPlace := ["math.Float64bits", "math.Float64frombits"], unfollowed := true, recurses := true, apart := false, narrowed := true }
def FnAVGoneUptoSaid : Prop := fnAVGoneUptoRow.holds Try.pinned (OpenSpec.upto fnAVGoneSpec)

/-- 'laws.FnAVSingly', WHERE WHAT IT READS IS OF BULK AT MOST 1048576: true; the input reads as it did. -/
def fnAVSinglyUptoRow : OpenClaim := { program := "ytkjlijgeoidmiaa", sum := "cc356b99f4092119a03b66c766c8ab4b4bf650d05d69ef66df2e641000261905", func := "given.example/pub-spokeshave/laws.FnAVSingly", spec := "fnAVSingly", inPlace := ["math.Float64bits", "math.Float64frombits"], unfollowed := true, recurses := true, apart := false, narrowed := true }
def FnAVSinglyUptoSaid : Prop := fnAVSinglyUptoRow.holds Try.pinned (OpenSpec.upto fnAVSinglySpec)

/-- 'laws.FnXTreeSlice', WHERE WHAT IT READS IS OF BULK AT MOST 1048576: true; the input reads as it did. -/
def fnXTreeSliceUptoRow : OpenClaim := { program := "ytkjlijgeoidmiaa", sum := "cc356b99f4092119a03b66c766c8ab4b4bf650d05d69ef66df2e641000261905", func := "given.example/pub-spokeshave/laws.FnXTreeSlice", spec := "fnXTreeSlice", inPlace := ["math.Float64bits", "math.Float64frombits"], unfollowed := true, recurses := true, apart := false, narrowed := true }
def FnXTreeSliceUptoSaid : Prop := fnXTreeSliceUptoRow.holds Try.pinned (OpenSpec.upto fnXTreeSliceSpec)

/-- 'laws.FnMGParts', WHERE WHAT IT READS IS OF BULK AT MOST 1048576: true; the input reads as it did. -/
def fnMGPartsUptoRow : OpenClaim := { program := "ytkjlijgeoidmiaa", sum := "cc356b99f4092119a03b66c766c8ab4b4bf650d05d69ef66df2e641000261905", func := "given.example/pub-spokeshave/laws.FnMGParts", spec := "fnMGParts", inPlace := ["math.Float64bits", "math.Float64frombits"], unfollowed := true, recurses := true, apart := false, narrowed := true }
def FnMGPartsUptoSaid : Prop := fnMGPartsUptoRow.holds Try.pinned (OpenSpec.upto fnMGPartsSpec)

end Rows
end Go.Proofs.Ytkjlijgeoidmiaa
