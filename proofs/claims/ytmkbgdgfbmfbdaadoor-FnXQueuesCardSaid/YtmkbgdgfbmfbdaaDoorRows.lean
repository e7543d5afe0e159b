/-
  NARROWER THAN 'FOR EVERY INPUT', by the rows' own cells (each row's printed sentence says how): FnPQAgain: ifaces, laid · FnPQShift: ifaces, laid · FnPQTurned: ifaces, laid · FnXQueues: ifaces, laid.
  DERIVED. THE GIVEN ROWS OF THIS SEAT. 4 by the template 'for every input the law returns true; each argument reads behind the call as it read before'; 0 by the template 'total and deterministic' (their statements: YtmkbgdgfbmfbdaaDoorTotals.lean).
  GIVEN WITH THE SEED: the statements are not yours to turn. If you find one false, say at which input.
  Laid BY PROGRAM, IN A SANDBOX (cutbox-rows.mjs): the forced cells as the released guide's own fill.sh prints them over the translation be8c31ee0e332982… (all of the seat's roots in one cut). By AI agents, Wed Nov 11 2026. No macro, syntax, notation, axiom, sorry.
-/
import Derived.Test.YtmkbgdgfbmfbdaaDoorChecked
import GoSem.Claim
import GoSem.ClaimJoined
import GoSem.ClaimMapViews
import Derived.JoinedTies
import Derived.KernelRfl
namespace Go.Proofs.YtmkbgdgfbmfbdaaDoor
/- THE CELL 'sum', in the pinned program and in every row, IS THE sha256 OF THE DUMP (.gsa) THAT YtmkbgdgfbmfbdaaDoorProg.lean LOADS. Nothing in Lean hashes anything: it is a label: what it is worth is what the hold of that sum in a sandbox is worth. -/
noncomputable def Tryd.pinned : Pinned := { name := "ytmkbgdgfbmfbdaadoor", sum := "be8c31ee0e33298272b524d0a702c1d446a9a9c5ac60d9747b4f6643cab67763", checked := Tryd.checked }
namespace Rows
def none {H : Type} : Left H := { results := [], args := [] }

/- WHAT THE LISTED PACKAGE-LEVEL VARIABLES READ AS WHEN THE CALL BEGINS. Each datum BY PROGRAM (the guide's laid-datum.mjs) off the statement by which the dump's own 'gosem.cut.vars' lays the variable. In a bare row this is a premise. The card (YtmkbgdgfbmfbdaaDoorCards.lean) ties it to the program's text. -/
def laid_given_example_pub_spokeshave_pub_godatastructures_queue_ErrDisposed {H : Type} : DataW H := .iface "*errors.errorString" (.ptr (.agg [.lit (.string [113, 117, 101, 117, 101, 58, 32, 100, 105, 115, 112, 111, 115, 101, 100])]))
def laid_given_example_pub_spokeshave_pub_godatastructures_queue_ErrTimeout {H : Type} : DataW H := .iface "*errors.errorString" (.ptr (.agg [.lit (.string [113, 117, 101, 117, 101, 58, 32, 112, 111, 108, 108, 32, 116, 105, 109, 101, 100, 32, 111, 117, 116])]))
def laid_given_example_pub_spokeshave_pub_godatastructures_queue_ErrEmptyQueue {H : Type} : DataW H := .iface "*errors.errorString" (.ptr (.agg [.lit (.string [113, 117, 101, 117, 101, 58, 32, 101, 109, 112, 116, 121, 32, 113, 117, 101, 117, 101])]))

/-- 'laws.FnPQAgain': WHATEVER THE INPUT: true; the input reads as it did. -/
def fnPQAgainSpec : ChangeSpec := { name := "fnPQAgain", vars := ["given.example/pub-spokeshave/pub/godatastructures/queue.ErrDisposed", "given.example/pub-spokeshave/pub/godatastructures/queue.ErrTimeout", "given.example/pub-spokeshave/pub/godatastructures/queue.ErrEmptyQueue"], fn := fun _ => fun
  | [d, g1, g2, g3] => { results := [.lit (.bool true)], args := [d], vars := [g1, g2, g3] }
  | _ => none }
def fnPQAgainRow : OpenClaim := { program := "ytmkbgdgfbmfbdaadoor", sum := "be8c31ee0e33298272b524d0a702c1d446a9a9c5ac60d9747b4f6643cab67763", func := "given.example/pub-spokeshave/laws.FnPQAgain", spec := "fnPQAgain", unfollowed := true, recurses := true, named := ["given.example/pub-spokeshave/pub/godatastructures/queue.ErrDisposed", "given.example/pub-spokeshave/pub/godatastructures/queue.ErrTimeout", "given.example/pub-spokeshave/pub/godatastructures/queue.ErrEmptyQueue"], ifaces := true, apart := false, laid := [("given.example/pub-spokeshave/pub/godatastructures/queue.ErrDisposed", laid_given_example_pub_spokeshave_pub_godatastructures_queue_ErrDisposed), ("given.example/pub-spokeshave/pub/godatastructures/queue.ErrTimeout", laid_given_example_pub_spokeshave_pub_godatastructures_queue_ErrTimeout), ("given.example/pub-spokeshave/pub/godatastructures/queue.ErrEmptyQueue", laid_given_example_pub_spokeshave_pub_godatastructures_queue_ErrEmptyQueue)] }
def FnPQAgainSaid : Prop := fnPQAgainRow.holds Tryd.pinned (OpenSpec.ofChange fnPQAgainSpec)

/-- ITS FALSE NEIGHBOUR: 'it returns false'. Refute it at one input. -/
def fnPQAgainWrong : ChangeSpec := { name := "fnPQAgain", vars := ["given.example/pub-spokeshave/pub/godatastructures/queue.ErrDisposed", "given.example/pub-spokeshave/pub/godatastructures/queue.ErrTimeout", "given.example/pub-spokeshave/pub/godatastructures/queue.ErrEmptyQueue"], fn := fun _ => fun
  | [d, g1, g2, g3] => { results := [.lit (.bool false)], args := [d], vars := [g1, g2, g3] }
  | _ => none }
def FnPQAgainWrongFalsely : Prop := fnPQAgainRow.holds Tryd.pinned (OpenSpec.ofChange fnPQAgainWrong)

/-- 'laws.FnPQShift': WHATEVER THE INPUT: true; the input reads as it did. -/
def fnPQShiftSpec : ChangeSpec := { name := "fnPQShift", vars := ["given.example/pub-spokeshave/pub/godatastructures/queue.ErrDisposed", "given.example/pub-spokeshave/pub/godatastructures/queue.ErrTimeout", "given.example/pub-spokeshave/pub/godatastructures/queue.ErrEmptyQueue"], fn := fun _ => fun
  | [d1, d2, g1, g2, g3] => { results := [.lit (.bool true)], args := [d1, d2], vars := [g1, g2, g3] }
  | _ => none }
def fnPQShiftRow : OpenClaim := { program := "ytmkbgdgfbmfbdaadoor", sum := "be8c31ee0e33298272b524d0a702c1d446a9a9c5ac60d9747b4f6643cab67763", func := "given.example/pub-spokeshave/laws.FnPQShift", spec := "fnPQShift", unfollowed := true, recurses := true, named := ["given.example/pub-spokeshave/pub/godatastructures/queue.ErrDisposed", "given.example/pub-spokeshave/pub/godatastructures/queue.ErrTimeout", "given.example/pub-spokeshave/pub/godatastructures/queue.ErrEmptyQueue"], ifaces := true, apart := false, laid := [("given.example/pub-spokeshave/pub/godatastructures/queue.ErrDisposed", laid_given_example_pub_spokeshave_pub_godatastructures_queue_ErrDisposed), ("given.example/pub-spokeshave/pub/godatastructures/queue.ErrTimeout", laid_given_example_pub_spokeshave_pub_godatastructures_queue_ErrTimeout), ("given.example/pub-spokeshave/pub/godatastructures/queue.ErrEmptyQueue", laid_given_example_pub_spokeshave_pub_godatastructures_queue_ErrEmptyQueue)] }
def FnPQShiftSaid : Prop := fnPQShiftRow.holds Tryd.pinned (OpenSpec.ofChange fnPQShiftSpec)

/-- ITS FALSE NEIGHBOUR: 'it returns false'. Refute it at one input. -/
def fnPQShiftWrong : ChangeSpec := { name := "fnPQShift", vars := ["given.example/pub-spokeshave/pub/godatastructures/queue.ErrDisposed", "given.example/pub-spokeshave/pub/godatastructures/queue.ErrTimeout", "given.example/pub-spokeshave/pub/godatastructures/queue.ErrEmptyQueue"], fn := fun _ => fun
  | [d1, d2, g1, g2, g3] => { results := [.lit (.bool false)], args := [d1, d2], vars := [g1, g2, g3] }
  | _ => none }
def FnPQShiftWrongFalsely : Prop := fnPQShiftRow.holds Tryd.pinned (OpenSpec.ofChange fnPQShiftWrong)

/-- 'laws.FnPQTurned': WHATEVER THE INPUT: true; the input reads as it did. -/
def fnPQTurnedSpec : ChangeSpec := { name := "fnPQTurned", vars := ["given.example/pub-spokeshave/pub/godatastructures/queue.ErrDisposed", "given.example/pub-spokeshave/pub/godatastructures/queue.ErrTimeout", "given.example/pub-spokeshave/pub/godatastructures/queue.ErrEmptyQueue"], fn := fun _ => fun
  | [d1, d2, g1, g2, g3] => { results := [.lit (.bool true)], args := [d1, d2], vars := [g1, g2, g3] }
  | _ => none }
def fnPQTurnedRow : OpenClaim := { program := "ytmkbgdgfbmfbdaadoor", sum := "be8c31ee0e33298272b524d0a702c1d446a9a9c5ac60d9747b4f6643cab67763", func := "given.example/pub-spokeshave/laws.FnPQTurned", spec := "fnPQTurned", unfollowed := true, recurses := true, named := ["given.example/pub-spokeshave/pub/godatastructures/queue.ErrDisposed", "given.example/pub-spokeshave/pub/godatastructures/queue.ErrTimeout", "given.example/pub-spokeshave/pub/godatastructures/queue.ErrEmptyQueue"], ifaces := true, apart := false, laid := [("given.example/pub-spokeshave/pub/godatastructures/queue.ErrDisposed", laid_given_example_pub_spokeshave_pub_godatastructures_queue_ErrDisposed), ("given.example/pub-spokeshave/pub/godatastructures/queue.ErrTimeout", laid_given_example_pub_spokeshave_pub_godatastructures_queue_ErrTimeout), ("given.example/pub-spokeshave/pub/godatastructures/queue.ErrEmptyQueue", laid_given_example_pub_spokeshave_pub_godatastructures_queue_ErrEmptyQueue)] }
def FnPQTurnedSaid : Prop := fnPQTurnedRow.holds Tryd.pinned (OpenSpec.ofChange fnPQTurnedSpec)

/-- ITS FALSE NEIGHBOUR: 'it returns false'. Refute it at one input. -/
def fnPQTurnedWrong : ChangeSpec := { name := "fnPQTurned", vars := ["given.example/pub-spokeshave/pub/godatastructures/queue.ErrDisposed", "given.example/pub-spokeshave/pub/godatastructures/queue.ErrTimeout", "given.example/pub-spokeshave/pub/godatastructures/queue.ErrEmptyQueue"], fn := fun _ => fun
  | [d1, d2, g1, g2, g3] => { results := [.lit (.bool false)], args := [d1, d2], vars := [g1, g2, g3] }
  | _ => none }
def FnPQTurnedWrongFalsely : Prop := fnPQTurnedRow.holds Tryd.pinned (OpenSpec.ofChange fnPQTurnedWrong)

/-- 'laws.FnXQueues': WHATEVER THE INPUT: true; the input reads as it did. -/
def fnXQueuesSpec : ChangeSpec := { name := "fnXQueues", vars := ["given.example/pub-spokeshave/pub/godatastructures/queue.ErrDisposed", "given.example/pub-spokeshave/pub/godatastructures/queue.ErrTimeout", "given.example/pub-spokeshave/pub/godatastructures/queue.ErrEmptyQueue"], fn := fun _ => fun
  | [d1, d2, g1, g2, g3] => { results := [.lit (.bool true)], args := [d1, d2], vars := [g1, g2, g3] }
  | _ => none }
def fnXQueuesRow : OpenClaim := { program := "ytmkbgdgfbmfbdaadoor", sum := "be8c31ee0e33298272b524d0a702c1d446a9a9c5ac60d9747b4f6643cab67763", func := "given.example/pub-spokeshave/laws.FnXQueues", spec := "fnXQueues", inPlace := ["math.Float64bits", "math.Float64frombits"], unfollowed := true, recurses := true, named := ["given.example/pub-spokeshave/pub/godatastructures/queue.ErrDisposed", "given.example/pub-spokeshave/pub/godatastructures/queue.ErrTimeout", "given.example/pub-spokeshave/pub/godatastructures/queue.ErrEmptyQueue"], ifaces := true, apart := false, laid := [("given.example/pub-spokeshave/pub/godatastructures/queue.ErrDisposed", laid_given_example_pub_spokeshave_pub_godatastructures_queue_ErrDisposed), ("given.example/pub-spokeshave/pub/godatastructures/queue.ErrTimeout", laid_given_example_pub_spokeshave_pub_godatastructures_queue_ErrTimeout), ("given.example/pub-spokeshave/pub/godatastructures/queue.ErrEmptyQueue", laid_given_example_pub_spokeshave_pub_godatastructures_queue_ErrEmptyQueue)] }
def FnXQueuesSaid : Prop := fnXQueuesRow.holds Tryd.pinned (OpenSpec.ofChange fnXQueuesSpec)

/-- ITS FALSE NEIGHBOUR: 'it returns false'. Refute it at one input. -/
def fnXQueuesWrong : ChangeSpec := { name := "fnXQueues", vars := ["given.example/pub-spokeshave/pub/godatastructures/queue.ErrDisposed", "given.example/pub-spokeshave/pub/godatastructures/queue.ErrTimeout", "given.example/pub-spokeshave/pub/godatastructures/queue.ErrEmptyQueue"], fn := fun _ => fun
  | [d1, d2, g1, g2, g3] => { results := [.lit (.bool false)], args := [d1, d2], vars := [g1, g2, g3] }
  | _ => none }
def FnXQueuesWrongFalsely : Prop := fnXQueuesRow.holds Tryd.pinned (OpenSpec.ofChange fnXQueuesWrong)

/- THE SECOND FORM. 'bulk': how many values and letters a reading holds, each counted each time it is reached (what is shared counts as often as it is met; a slice's spare places count too). A statement '..UptoSaid' is the law's where the arguments, and the package variables that the reading takes, are together of bulk at most 1048576: NARROWER than '..Said'. Prove '..Said' where nothing that the law and all that it calls make is longer than what came in: it says more and counts as full. Else prove '..UptoSaid'. A law counts once. -/
mutual
def uptoBulk {H : Type} : DataW H → Nat
  | .lit (.string bytes) => bytes.length + 1
  | .lit _ => 1
  | .nil => 1
  | .ptr d => uptoBulk d + 1
  | .slice elems spare => uptoBulkAll elems + uptoBulkAll spare + 1
  | .agg parts => uptoBulkAll parts + 1
  | .iface _ d => uptoBulk d + 1
  | .map entries => uptoBulkEntries entries + 1
  | .held _ => 1
def uptoBulkAll {H : Type} : List (DataW H) → Nat
  | [] => 0
  | d :: r => uptoBulk d + uptoBulkAll r
def uptoBulkEntries {H : Type} : List (Lit × DataW H) → Nat
  | [] => 0
  | x :: r => uptoBulkEntry x + uptoBulkEntries r
def uptoBulkEntry {H : Type} : Lit × DataW H → Nat
  | (.string bytes, d) => bytes.length + uptoBulk d + 1
  | (_, d) => uptoBulk d + 1
 end
def uptoSmall : (H : Type) → List (DataW H) → Bool := fun _ ds => decide (uptoBulkAll ds ≤ 1048576)
def OpenSpec.upto (s : _root_.Go.ChangeSpec) : _root_.Go.OpenSpec := { _root_.Go.OpenSpec.ofChange s with cond := some uptoSmall }

/-- 'laws.FnPQAgain', WHERE WHAT IT READS IS OF BULK AT MOST 1048576: true; the input reads as it did. -/
def fnPQAgainUptoRow : OpenClaim := { program := "ytmkbgdgfbmfbdaadoor", sum := "be8c31ee0e33298272b524d0a702c1d446a9a9c5ac60d9747b4f6643cab67763", func := "given.example/pub-spokeshave/laws.FnPQAgain", spec := "fnPQAgain", unfollowed := true, recurses := true, named := ["given.example/pub-spokeshave/pub/godatastructures/queue.ErrDisposed", "given.example/pub-spokeshave/pub/godatastructures/queue.ErrTimeout", "given.example/pub-spokeshave/pub/godatastructures/queue.ErrEmptyQueue"], ifaces := true, apart := false, laid := [("given.example/pub-spokeshave/pub/godatastructures/queue.ErrDisposed", laid_given_example_pub_spokeshave_pub_godatastructures_queue_ErrDisposed), ("given.example/pub-spokeshave/pub/godatastructures/queue.ErrTimeout", laid_given_example_pub_spokeshave_pub_godatastructures_queue_ErrTimeout), ("given.example/pub-spokeshave/pub/godatastructures/queue.ErrEmptyQueue", laid_given_example_pub_spokeshave_pub_godatastructures_queue_ErrEmptyQueue)], narrowed := true }
def FnPQAgainUptoSaid : Prop := fnPQAgainUptoRow.holds Tryd.pinned (OpenSpec.upto fnPQAgainSpec)

/-- 'laws.FnPQShift', WHERE WHAT IT READS IS OF BULK AT MOST 1048576: true; the input reads as it did. -/
def fnPQShiftUptoRow : OpenClaim := { program := "ytmkbgdgfbmfbdaadoor", sum := "be8c31ee0e33298272b524d0a702c1d446a9a9c5ac60d9747b4f6643cab67763", func := "given.example/pub-spokeshave/laws.FnPQShift", spec := "fnPQShift", unfollowed := true, recurses := true, named := ["given.example/pub-spokeshave/pub/godatastructures/queue.ErrDisposed", "given.example/pub-spokeshave/pub/godatastructures/queue.ErrTimeout", "given.example/pub-spokeshave/pub/godatastructures/queue.ErrEmptyQueue"], ifaces := true, apart := false, laid := [("given.example/pub-spokeshave/pub/godatastructures/queue.ErrDisposed", laid_given_example_pub_spokeshave_pub_godatastructures_queue_ErrDisposed), ("given.example/pub-spokeshave/pub/godatastructures/queue.ErrTimeout", laid_given_example_pub_spokeshave_pub_godatastructures_queue_ErrTimeout), ("given.example/pub-spokeshave/pub/godatastructures/queue.ErrEmptyQueue", laid_given_example_pub_spokeshave_pub_godatastructures_queue_ErrEmptyQueue)], narrowed := true }
def FnPQShiftUptoSaid : Prop := fnPQShiftUptoRow.holds Tryd.pinned (OpenSpec.upto fnPQShiftSpec)

/-- 'laws.FnPQTurned', WHERE WHAT IT READS IS OF BULK AT MOST 1048576: true; the input reads as it did. -/
def fnPQTurnedUptoRow : OpenClaim := { program := "ytmkbgdgfbmfbdaadoor", sum := "be8c31ee0e33298272b524d0a702c1d446a9a9c5ac60d9747b4f6643cab67763", func := "given.example/pub-spokeshave/laws.FnPQTurned", spec := "fnPQTurned", unfollowed := true, recurses := true, named := ["given.example/pub-spokeshave/pub/godatastructures/queue.ErrDisposed", "given.example/pub-spokeshave/pub/godatastructures/queue.ErrTimeout", "given.example/pub-spokeshave/pub/godatastructures/queue.ErrEmptyQueue"], ifaces := true, apart := false, laid := [("given.example/pub-spokeshave/pub/godatastructures/queue.ErrDisposed", laid_given_example_pub_spokeshave_pub_godatastructures_queue_ErrDisposed), ("given.example/pub-spokeshave/pub/godatastructures/queue.ErrTimeout", laid_given_example_pub_spokeshave_pub_godatastructures_queue_ErrTimeout), ("given.example/pub-spokeshave/pub/godatastructures/queue.ErrEmptyQueue", laid_given_example_pub_spokeshave_pub_godatastructures_queue_ErrEmptyQueue)], narrowed := true }
def FnPQTurnedUptoSaid : Prop := fnPQTurnedUptoRow.holds Tryd.pinned (OpenSpec.upto fnPQTurnedSpec)

/-- 'laws.FnXQueues', WHERE WHAT IT READS IS OF BULK AT MOST 1048576: true; the input reads as it did. -/
def fnXQueuesUptoRow : OpenClaim := { program := "ytmkbgdgfbmfbdaadoor", sum := "be8c31ee0e33298272b524d0a702c1d446a9a9c5ac60d9747b4f6643cab67763", func := "given.example/pub-spokeshave/laws.FnXQueues", spec := "fnXQueues", inPlace := ["math.Float64bits", "math.Float64frombits"], unfollowed := true, recurses := true, named := ["given.example/pub-spokeshave/pub/godatastructures/queue.ErrDisposed", "given.example/pub-spokeshave/pub/godatastructures/queue.ErrTimeout", "given.example/pub-spokeshave/pub/godatastructures/queue.ErrEmptyQueue"], ifaces := true, apart := false, laid := [("given.example/pub-spokeshave/pub/godatastructures/queue.ErrDisposed", laid_given_example_pub_spokeshave_pub_godatastructures_queue_ErrDisposed), ("given.example/pub-spokeshave/pub/godatastructures/queue.ErrTimeout", laid_given_example_pub_spokeshave_pub_godatastructures_queue_ErrTimeout), ("given.example/pub-spokeshave/pub/godatastructures/queue.ErrEmptyQueue", laid_given_example_pub_spokeshave_pub_godatastructures_queue_ErrEmptyQueue)], narrowed := true }
def FnXQueuesUptoSaid : Prop := fnXQueuesUptoRow.holds Tryd.pinned (OpenSpec.upto fnXQueuesSpec)

end Rows
end Go.Proofs.YtmkbgdgfbmfbdaaDoor
