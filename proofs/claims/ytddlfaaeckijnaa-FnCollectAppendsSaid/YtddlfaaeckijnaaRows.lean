/-
  No cell of these rows narrows 'for every input' (looked for: loops, veiled, ifaces, maps, wideKeys, modest, calm, conditions, laid).
  DERIVED. THE GIVEN ROWS OF THIS SEAT. 12 by the template 'for every input the law returns true; each argument reads behind the call as it read before'; 0 by the template 'total and deterministic' (their statements: YtddlfaaeckijnaaTotals.lean).
  GIVEN WITH THE SEED: the statements are not yours to turn. If you find one false, say at which input.
  Laid BY PROGRAM, IN A SANDBOX (cutbox-rows.mjs): the forced cells as the released guide's own fill.sh prints them over the translation daacab85a2a852e8… (all of the seat's roots in one cut). By AI agents, Wed Nov 11 2026. No macro, syntax, notation, axiom, sorry.
-/
import Derived.Test.YtddlfaaeckijnaaChecked
import GoSem.Claim
import GoSem.ClaimJoined
import GoSem.ClaimMapViews
import Derived.JoinedTies
import Derived.KernelRfl
namespace Go.Proofs.Ytddlfaaeckijnaa
/- THE CELL 'sum', in the pinned program and in every row, IS THE sha256 OF THE DUMP (.gsa) THAT YtddlfaaeckijnaaProg.lean LOADS. Nothing in Lean hashes anything: it is a label: what it is worth is what the hold of that sum in a sandbox is worth. -/
noncomputable def Try.pinned : Pinned := { name := "ytddlfaaeckijnaa", sum := "daacab85a2a852e8a29036d38c3c58b141814fd3a74379ad37b8d5548d6a3a57", checked := Try.checked }
namespace Rows
def none {H : Type} : Left H := { results := [], args := [] }

/-- 'laws.FnExactAppendValues': WHATEVER THE INPUT: true; the input reads as it did. -/
def fnExactAppendValuesSpec : ChangeSpec := { name := "fnExactAppendValues", fn := fun _ => fun
  | [d1, d2] => { results := [.lit (.bool true)], args := [d1, d2] }
  | _ => none }
def fnExactAppendValuesRow : OpenClaim := { program := "ytddlfaaeckijnaa", sum := "daacab85a2a852e8a29036d38c3c58b141814fd3a74379ad37b8d5548d6a3a57", func := "loop.example/lib-walkedmaps/laws.FnExactAppendValues", spec := "fnExactAppendValues", unfollowed := true, recurses := true, apart := false }
def FnExactAppendValuesSaid : Prop := fnExactAppendValuesRow.holds Try.pinned (OpenSpec.ofChange fnExactAppendValuesSpec)

/-- ITS FALSE NEIGHBOUR: 'it returns false'. Refute it at one input. -/
def fnExactAppendValuesWrong : ChangeSpec := { name := "fnExactAppendValues", fn := fun _ => fun
  | [d1, d2] => { results := [.lit (.bool false)], args := [d1, d2] }
  | _ => none }
def FnExactAppendValuesWrongFalsely : Prop := fnExactAppendValuesRow.holds Try.pinned (OpenSpec.ofChange fnExactAppendValuesWrong)

/-- 'laws.FnExactWalkAll': WHATEVER THE INPUT: true; the input reads as it did. -/
def fnExactWalkAllSpec : ChangeSpec := { name := "fnExactWalkAll", fn := fun _ => fun
  | [d1, d2] => { results := [.lit (.bool true)], args := [d1, d2] }
  | _ => none }
def fnExactWalkAllRow : OpenClaim := { program := "ytddlfaaeckijnaa", sum := "daacab85a2a852e8a29036d38c3c58b141814fd3a74379ad37b8d5548d6a3a57", func := "loop.example/lib-walkedmaps/laws.FnExactWalkAll", spec := "fnExactWalkAll", unfollowed := true, recurses := true, apart := false }
def FnExactWalkAllSaid : Prop := fnExactWalkAllRow.holds Try.pinned (OpenSpec.ofChange fnExactWalkAllSpec)

/-- ITS FALSE NEIGHBOUR: 'it returns false'. Refute it at one input. -/
def fnExactWalkAllWrong : ChangeSpec := { name := "fnExactWalkAll", fn := fun _ => fun
  | [d1, d2] => { results := [.lit (.bool false)], args := [d1, d2] }
  | _ => none }
def FnExactWalkAllWrongFalsely : Prop := fnExactWalkAllRow.holds Try.pinned (OpenSpec.ofChange fnExactWalkAllWrong)

/-- 'laws.FnExactWalkBackward': WHATEVER THE INPUT: true; the input reads as it did. -/
def fnExactWalkBackwardSpec : ChangeSpec := { name := "fnExactWalkBackward", fn := fun _ => fun
  | [d1, d2] => { results := [.lit (.bool true)], args := [d1, d2] }
  | _ => none }
def fnExactWalkBackwardRow : OpenClaim := { program := "ytddlfaaeckijnaa", sum := "daacab85a2a852e8a29036d38c3c58b141814fd3a74379ad37b8d5548d6a3a57", func := "loop.example/lib-walkedmaps/laws.FnExactWalkBackward", spec := "fnExactWalkBackward", unfollowed := true, recurses := true, apart := false }
def FnExactWalkBackwardSaid : Prop := fnExactWalkBackwardRow.holds Try.pinned (OpenSpec.ofChange fnExactWalkBackwardSpec)

/-- ITS FALSE NEIGHBOUR: 'it returns false'. Refute it at one input. -/
def fnExactWalkBackwardWrong : ChangeSpec := { name := "fnExactWalkBackward", fn := fun _ => fun
  | [d1, d2] => { results := [.lit (.bool false)], args := [d1, d2] }
  | _ => none }
def FnExactWalkBackwardWrongFalsely : Prop := fnExactWalkBackwardRow.holds Try.pinned (OpenSpec.ofChange fnExactWalkBackwardWrong)

/-- 'laws.FnExactWalkValues': WHATEVER THE INPUT: true; the input reads as it did. -/
def fnExactWalkValuesSpec : ChangeSpec := { name := "fnExactWalkValues", fn := fun _ => fun
  | [d1, d2] => { results := [.lit (.bool true)], args := [d1, d2] }
  | _ => none }
def fnExactWalkValuesRow : OpenClaim := { program := "ytddlfaaeckijnaa", sum := "daacab85a2a852e8a29036d38c3c58b141814fd3a74379ad37b8d5548d6a3a57", func := "loop.example/lib-walkedmaps/laws.FnExactWalkValues", spec := "fnExactWalkValues", unfollowed := true, recurses := true, apart := false }
def FnExactWalkValuesSaid : Prop := fnExactWalkValuesRow.holds Try.pinned (OpenSpec.ofChange fnExactWalkValuesSpec)

/-- ITS FALSE NEIGHBOUR: 'it returns false'. Refute it at one input. -/
def fnExactWalkValuesWrong : ChangeSpec := { name := "fnExactWalkValues", fn := fun _ => fun
  | [d1, d2] => { results := [.lit (.bool false)], args := [d1, d2] }
  | _ => none }
def FnExactWalkValuesWrongFalsely : Prop := fnExactWalkValuesRow.holds Try.pinned (OpenSpec.ofChange fnExactWalkValuesWrong)

/-- 'laws.FnWalksBegin': WHATEVER THE INPUT: true; the input reads as it did. -/
def fnWalksBeginSpec : ChangeSpec := { name := "fnWalksBegin", fn := fun _ => fun
  | [d] => { results := [.lit (.bool true)], args := [d] }
  | _ => none }
def fnWalksBeginRow : OpenClaim := { program := "ytddlfaaeckijnaa", sum := "daacab85a2a852e8a29036d38c3c58b141814fd3a74379ad37b8d5548d6a3a57", func := "loop.example/lib-walkedmaps/laws.FnWalksBegin", spec := "fnWalksBegin", unfollowed := true, recurses := true, apart := false }
def FnWalksBeginSaid : Prop := fnWalksBeginRow.holds Try.pinned (OpenSpec.ofChange fnWalksBeginSpec)

/-- ITS FALSE NEIGHBOUR: 'it returns false'. Refute it at one input. -/
def fnWalksBeginWrong : ChangeSpec := { name := "fnWalksBegin", fn := fun _ => fun
  | [d] => { results := [.lit (.bool false)], args := [d] }
  | _ => none }
def FnWalksBeginWrongFalsely : Prop := fnWalksBeginRow.holds Try.pinned (OpenSpec.ofChange fnWalksBeginWrong)

/-- 'laws.FnExactWalkLater': WHATEVER THE INPUT: true; the input reads as it did. -/
def fnExactWalkLaterSpec : ChangeSpec := { name := "fnExactWalkLater", fn := fun _ => fun
  | [d1, d2, d3] => { results := [.lit (.bool true)], args := [d1, d2, d3] }
  | _ => none }
def fnExactWalkLaterRow : OpenClaim := { program := "ytddlfaaeckijnaa", sum := "daacab85a2a852e8a29036d38c3c58b141814fd3a74379ad37b8d5548d6a3a57", func := "loop.example/lib-walkedmaps/laws.FnExactWalkLater", spec := "fnExactWalkLater", unfollowed := true, recurses := true, apart := false }
def FnExactWalkLaterSaid : Prop := fnExactWalkLaterRow.holds Try.pinned (OpenSpec.ofChange fnExactWalkLaterSpec)

/-- ITS FALSE NEIGHBOUR: 'it returns false'. Refute it at one input. -/
def fnExactWalkLaterWrong : ChangeSpec := { name := "fnExactWalkLater", fn := fun _ => fun
  | [d1, d2, d3] => { results := [.lit (.bool false)], args := [d1, d2, d3] }
  | _ => none }
def FnExactWalkLaterWrongFalsely : Prop := fnExactWalkLaterRow.holds Try.pinned (OpenSpec.ofChange fnExactWalkLaterWrong)

/-- 'laws.FnExactCollect': WHATEVER THE INPUT: true; the input reads as it did. -/
def fnExactCollectSpec : ChangeSpec := { name := "fnExactCollect", fn := fun _ => fun
  | [d] => { results := [.lit (.bool true)], args := [d] }
  | _ => none }
def fnExactCollectRow : OpenClaim := { program := "ytddlfaaeckijnaa", sum := "daacab85a2a852e8a29036d38c3c58b141814fd3a74379ad37b8d5548d6a3a57", func := "loop.example/lib-walkedmaps/laws.FnExactCollect", spec := "fnExactCollect", unfollowed := true, recurses := true, apart := false }
def FnExactCollectSaid : Prop := fnExactCollectRow.holds Try.pinned (OpenSpec.ofChange fnExactCollectSpec)

/-- ITS FALSE NEIGHBOUR: 'it returns false'. Refute it at one input. -/
def fnExactCollectWrong : ChangeSpec := { name := "fnExactCollect", fn := fun _ => fun
  | [d] => { results := [.lit (.bool false)], args := [d] }
  | _ => none }
def FnExactCollectWrongFalsely : Prop := fnExactCollectRow.holds Try.pinned (OpenSpec.ofChange fnExactCollectWrong)

/-- 'laws.FnExactCollectValues': WHATEVER THE INPUT: true; the input reads as it did. -/
def fnExactCollectValuesSpec : ChangeSpec := { name := "fnExactCollectValues", fn := fun _ => fun
  | [d] => { results := [.lit (.bool true)], args := [d] }
  | _ => none }
def fnExactCollectValuesRow : OpenClaim := { program := "ytddlfaaeckijnaa", sum := "daacab85a2a852e8a29036d38c3c58b141814fd3a74379ad37b8d5548d6a3a57", func := "loop.example/lib-walkedmaps/laws.FnExactCollectValues", spec := "fnExactCollectValues", unfollowed := true, recurses := true, apart := false }
def FnExactCollectValuesSaid : Prop := fnExactCollectValuesRow.holds Try.pinned (OpenSpec.ofChange fnExactCollectValuesSpec)

/-- ITS FALSE NEIGHBOUR: 'it returns false'. Refute it at one input. -/
def fnExactCollectValuesWrong : ChangeSpec := { name := "fnExactCollectValues", fn := fun _ => fun
  | [d] => { results := [.lit (.bool false)], args := [d] }
  | _ => none }
def FnExactCollectValuesWrongFalsely : Prop := fnExactCollectValuesRow.holds Try.pinned (OpenSpec.ofChange fnExactCollectValuesWrong)

/-- 'laws.FnExactAppendSeq': WHATEVER THE INPUT: true; the input reads as it did. -/
def fnExactAppendSeqSpec : ChangeSpec := { name := "fnExactAppendSeq", fn := fun _ => fun
  | [d1, d2, d3] => { results := [.lit (.bool true)], args := [d1, d2, d3] }
  | _ => none }
def fnExactAppendSeqRow : OpenClaim := { program := "ytddlfaaeckijnaa", sum := "daacab85a2a852e8a29036d38c3c58b141814fd3a74379ad37b8d5548d6a3a57", func := "loop.example/lib-walkedmaps/laws.FnExactAppendSeq", spec := "fnExactAppendSeq", unfollowed := true, recurses := true, apart := false }
def FnExactAppendSeqSaid : Prop := fnExactAppendSeqRow.holds Try.pinned (OpenSpec.ofChange fnExactAppendSeqSpec)

/-- ITS FALSE NEIGHBOUR: 'it returns false'. Refute it at one input. -/
def fnExactAppendSeqWrong : ChangeSpec := { name := "fnExactAppendSeq", fn := fun _ => fun
  | [d1, d2, d3] => { results := [.lit (.bool false)], args := [d1, d2, d3] }
  | _ => none }
def FnExactAppendSeqWrongFalsely : Prop := fnExactAppendSeqRow.holds Try.pinned (OpenSpec.ofChange fnExactAppendSeqWrong)

/-- 'laws.FnExactWalkTwice': WHATEVER THE INPUT: true; the input reads as it did. -/
def fnExactWalkTwiceSpec : ChangeSpec := { name := "fnExactWalkTwice", fn := fun _ => fun
  | [d1, d2] => { results := [.lit (.bool true)], args := [d1, d2] }
  | _ => none }
def fnExactWalkTwiceRow : OpenClaim := { program := "ytddlfaaeckijnaa", sum := "daacab85a2a852e8a29036d38c3c58b141814fd3a74379ad37b8d5548d6a3a57", func := "loop.example/lib-walkedmaps/laws.FnExactWalkTwice", spec := "fnExactWalkTwice", unfollowed := true, recurses := true, apart := false }
def FnExactWalkTwiceSaid : Prop := fnExactWalkTwiceRow.holds Try.pinned (OpenSpec.ofChange fnExactWalkTwiceSpec)

/-- ITS FALSE NEIGHBOUR: 'it returns false'. Refute it at one input. -/
def fnExactWalkTwiceWrong : ChangeSpec := { name := "fnExactWalkTwice", fn := fun _ => fun
  | [d1, d2] => { results := [.lit (.bool false)], args := [d1, d2] }
  | _ => none }
def FnExactWalkTwiceWrongFalsely : Prop := fnExactWalkTwiceRow.holds Try.pinned (OpenSpec.ofChange fnExactWalkTwiceWrong)

/-- 'laws.FnExactCollectSet': WHATEVER THE INPUT: true; the input reads as it did. -/
def fnExactCollectSetSpec : ChangeSpec := { name := "fnExactCollectSet", fn := fun _ => fun
  | [d1, d2, d3] => { results := [.lit (.bool true)], args := [d1, d2, d3] }
  | _ => none }
def fnExactCollectSetRow : OpenClaim := { program := "ytddlfaaeckijnaa", sum := "daacab85a2a852e8a29036d38c3c58b141814fd3a74379ad37b8d5548d6a3a57", func := "loop.example/lib-walkedmaps/laws.FnExactCollectSet", spec := "fnExactCollectSet", unfollowed := true, recurses := true, apart := false }
def FnExactCollectSetSaid : Prop := fnExactCollectSetRow.holds Try.pinned (OpenSpec.ofChange fnExactCollectSetSpec)

/-- ITS FALSE NEIGHBOUR: 'it returns false'. Refute it at one input. -/
def fnExactCollectSetWrong : ChangeSpec := { name := "fnExactCollectSet", fn := fun _ => fun
  | [d1, d2, d3] => { results := [.lit (.bool false)], args := [d1, d2, d3] }
  | _ => none }
def FnExactCollectSetWrongFalsely : Prop := fnExactCollectSetRow.holds Try.pinned (OpenSpec.ofChange fnExactCollectSetWrong)

/-- 'laws.FnCollectAppends': WHATEVER THE INPUT: true; the input reads as it did. -/
def fnCollectAppendsSpec : ChangeSpec := { name := "fnCollectAppends", fn := fun _ => fun
  | [d] => { results := [.lit (.bool true)], args := [d] }
  | _ => none }
def fnCollectAppendsRow : OpenClaim := { program := "ytddlfaaeckijnaa", sum := "daacab85a2a852e8a29036d38c3c58b141814fd3a74379ad37b8d5548d6a3a57", func := "loop.example/lib-walkedmaps/laws.FnCollectAppends", spec := "fnCollectAppends", unfollowed := true, recurses := true, apart := false }
def FnCollectAppendsSaid : Prop := fnCollectAppendsRow.holds Try.pinned (OpenSpec.ofChange fnCollectAppendsSpec)

/-- ITS FALSE NEIGHBOUR: 'it returns false'. Refute it at one input. -/
def fnCollectAppendsWrong : ChangeSpec := { name := "fnCollectAppends", fn := fun _ => fun
  | [d] => { results := [.lit (.bool false)], args := [d] }
  | _ => none }
def FnCollectAppendsWrongFalsely : Prop := fnCollectAppendsRow.holds Try.pinned (OpenSpec.ofChange fnCollectAppendsWrong)

/- THE SECOND FORM. 'bulk': how many values and letters a reading holds, each counted each time it is reached (what is shared counts as often as it is met; a slice's spare places count too). A statement '..UptoSaid' is the law's where the arguments, and the package variables that the reading takes, are together of bulk at most 1048576: NARROWER than '..Said'. Prove '..Said' where nothing that the law and all that it calls make is longer than what came in: it says more and counts as full. Else prove '..UptoSaid'. A law counts once. -/
mutual
def uptoBulk {H : Type} : DataW H → Nat
  | .lit (.string bytes) => bytes.length + 1
  | .lit _ => 1
  | .nil => 1
  | .ptr d => uptoBulk d + 1
  | .slice elems spare => uptoBulkAll elems + uptoBulkAll spare + 1
  | .agg parts => uptoBulkAll parts + 1
  | .iface _ d => uptoBulk d + 1
  | .map entries => uptoBulkEntries entries + 1
  | .held _ => 1
def uptoBulkAll {H : Type} : List (DataW H) → Nat
  | [] => 0
  | d :: r => uptoBulk d + uptoBulkAll r
def uptoBulkEntries {H : Type} : List (Lit × DataW H) → Nat
  | [] => 0
  | x :: r => uptoBulkEntry x + uptoBulkEntries r
def uptoBulkEntry {H : Type} : Lit × DataW H → Nat
  | (.string bytes, d) => bytes.length + uptoBulk d + 1
  | (_, d) => uptoBulk d + 1
 end
def uptoSmall : (H : Type) → List (DataW H) → Bool := fun _ ds => decide (uptoBulkAll ds ≤ 1048576)
def OpenSpec.upto (s : _root_.Go.ChangeSpec) : _root_.Go.OpenSpec := { _root_.Go.OpenSpec.ofChange s with cond := some uptoSmall }

/-- 'laws.FnExactAppendValues', WHERE WHAT IT READS IS OF BULK AT MOST 1048576: true; the input reads as it did. -/
def fnExactAppendValuesUptoRow : OpenClaim := { program := "ytddlfaaeckijnaa", sum := "daacab85a2a852e8a29036d38c3c58b141814fd3a74379ad37b8d5548d6a3a57", func := "loop.example/lib-walkedmaps/laws.FnExactAppendValues", spec := "fnExactAppendValues", unfollowed := true, recurses := true, apart := false, narrowed := true }
def FnExactAppendValuesUptoSaid : Prop := fnExactAppendValuesUptoRow.holds Try.pinned (OpenSpec.upto fnExactAppendValuesSpec)

/-- 'laws.FnExactWalkAll', WHERE WHAT IT READS IS OF BULK AT MOST 1048576: true; the input reads as it did. -/
def fnExactWalkAllUptoRow : OpenClaim := { program := "ytddlfaaeckijnaa", sum := "daacab85a2a852e8a29036d38c3c58b141814fd3a74379ad37b8d5548d6a3a57", func := "loop.example/lib-walkedmaps/laws.FnExactWalkAll", spec := "fnExactWalkAll", unfollowed := true, recurses := true, apart := false, narrowed := true }
def FnExactWalkAllUptoSaid : Prop := fnExactWalkAllUptoRow.holds Try.pinned (OpenSpec.upto fnExactWalkAllSpec)

/-- 'laws.FnExactWalkBackward', WHERE WHAT IT READS IS OF BULK AT MOST 1048576: true; the input reads as it did. -/
def fnExactWalkBackwardUptoRow : OpenClaim := { program := "ytddlfaaeckijnaa", sum := "daacab85a2a852e8a29036d38c3c58b141814fd3a74379ad37b8d5548d6a3a57", func := "loop.example/lib-walkedmaps/laws.FnExactWalkBackward", spec := "fnExactWalkBackward", unfollowed := true, recurses := true, apart := false, narrowed := true }
def FnExactWalkBackwardUptoSaid : Prop := fnExactWalkBackwardUptoRow.holds Try.pinned (OpenSpec.upto fnExactWalkBackwardSpec)

/-- 'laws.FnExactWalkValues', WHERE WHAT IT READS IS OF BULK AT MOST 1048576: true; the input reads as it did. -/
def fnExactWalkValuesUptoRow : OpenClaim := { program := "ytddlfaaeckijnaa", sum := "daacab85a2a852e8a29036d38c3c58b141814fd3a74379ad37b8d5548d6a3a57", func := "loop.example/lib-walkedmaps/laws.FnExactWalkValues", spec := "fnExactWalkValues", unfollowed := true, recurses := true, apart := false, narrowed := true }
def FnExactWalkValuesUptoSaid : Prop := fnExactWalkValuesUptoRow.holds Try.pinned (OpenSpec.upto fnExactWalkValuesSpec)

/-- 'laws.FnWalksBegin', WHERE WHAT IT READS IS OF BULK AT MOST 1048576: true; the input reads as it did. -/
def fnWalksBeginUptoRow : OpenClaim := { program := "ytddlfaaeckijnaa", sum := "daacab85a2a852e8a29036d38c3c58b141814fd3a74379ad37b8d5548d6a3a57", func := "loop.example/lib-walkedmaps/laws.FnWalksBegin", spec := "fnWalksBegin", unfollowed := true, recurses := true, apart := false, narrowed := true }
def FnWalksBeginUptoSaid : Prop := fnWalksBeginUptoRow.holds Try.pinned (OpenSpec.upto fnWalksBeginSpec)

/-- 'laws.FnExactWalkLater', WHERE WHAT IT READS IS OF BULK AT MOST 1048576: true; the input reads as it did. -/
def fnExactWalkLaterUptoRow : OpenClaim := { program := "ytddlfaaeckijnaa", sum := "daacab85a2a852e8a29036d38c3c58b141814fd3a74379ad37b8d5548d6a3a57", func := "loop.example/lib-walkedmaps/laws.FnExactWalkLater", spec := "fnExactWalkLater", unfollowed := true, recurses := true, apart := false, narrowed := true }
def FnExactWalkLaterUptoSaid : Prop := fnExactWalkLaterUptoRow.holds Try.pinned (OpenSpec.upto fnExactWalkLaterSpec)

/-- 'laws.FnExactCollect', WHERE WHAT IT READS IS OF BULK AT MOST 1048576: true; the input reads as it did. -/
def fnExactCollectUptoRow : OpenClaim := { program := "ytddlfaaeckijnaa", sum := "daacab85a2a852e8a29036d38c3c58b141814fd3a74379ad37b8d5548d6a3a57", func := "loop.example/lib-walkedmaps/laws.FnExactCollect", spec := "fnExactCollect", unfollowed := true, recurses := true, apart := false, narrowed := true }
def FnExactCollectUptoSaid : Prop := fnExactCollectUptoRow.holds Try.pinned (OpenSpec.upto fnExactCollectSpec)

/-- 'laws.FnExactCollectValues', WHERE WHAT IT READS IS OF BULK AT MOST 1048576: true; the input reads as it did. -/
def fnExactCollectValuesUptoRow : OpenClaim := { program := "ytddlfaaeckijnaa", sum := "daacab85a2a852e8a29036d38c3c58b141814fd3a74379ad37b8d5548d6a3a57", func := "loop.example/lib-walkedmaps/laws.FnExactCollectValues", spec := "fnExactCollectValues", unfollowed := true, recurses := true, apart := false, narrowed := true }
def FnExactCollectValuesUptoSaid : Prop := fnExactCollectValuesUptoRow.holds Try.pinned (OpenSpec.upto fnExactCollectValuesSpec)

/-- 'laws.FnExactAppendSeq', WHERE WHAT IT READS IS OF BULK AT MOST 1048576: true; the input reads as it did. -/
def fnExactAppendSeqUptoRow : OpenClaim := { program := "ytddlfaaeckijnaa", sum := "daacab85a2a852e8a29036d38c3c58b141814fd3a74379ad37b8d5548d6a3a57", func := "loop.example/lib-walkedmaps/laws.FnExactAppendSeq", spec := "fnExactAppendSeq", unfollowed := true, recurses := true, apart := false, narrowed := true }
def FnExactAppendSeqUptoSaid : Prop := fnExactAppendSeqUptoRow.holds Try.pinned (OpenSpec.upto fnExactAppendSeqSpec)

/-- 'laws.FnExactWalkTwice', WHERE WHAT IT READS IS OF BULK AT MOST 1048576: true; the input reads as it did. -/
def fnExactWalkTwiceUptoRow : OpenClaim := { program := "ytddlfaaeckijnaa", sum := "daacab85a2a852e8a29036d38c3c58b141814fd3a74379ad37b8d5548d6a3a57", func := "loop.example/lib-walkedmaps/laws.FnExactWalkTwice", spec := "fnExactWalkTwice", unfollowed := true, recurses := true, apart := false, narrowed := true }
def FnExactWalkTwiceUptoSaid : Prop := fnExactWalkTwiceUptoRow.holds Try.pinned (OpenSpec.upto fnExactWalkTwiceSpec)

/-- 'laws.FnExactCollectSet', WHERE WHAT IT READS IS OF BULK AT MOST 1048576: true; the input reads as it did. -/
def fnExactCollectSetUptoRow : OpenClaim := { program := "ytddlfaaeckijnaa", sum := "daacab85a2a852e8a29036d38c3c58b141814fd3a74379ad37b8d5548d6a3a57", func := "loop.example/lib-walkedmaps/laws.FnExactCollectSet", spec := "fnExactCollectSet", unfollowed := true, recurses := true, apart := false, narrowed := true }
def FnExactCollectSetUptoSaid : Prop := fnExactCollectSetUptoRow.holds Try.pinned (OpenSpec.upto fnExactCollectSetSpec)

/-- 'laws.FnCollectAppends', WHERE WHAT IT READS IS OF BULK AT MOST 1048576: true; the input reads as it did. -/
def fnCollectAppendsUptoRow : OpenClaim := { program := "ytddlfaaeckijnaa", sum := "daacab85a2a852e8a29036d38c3c58b141814fd3a74379ad37b8d5548d6a3a57", func := "loop.example/lib-walkedmaps/laws.FnCollectAppends", spec := "fnCollectAppends", unfollowed := true, recurses := true, apart := false, narrowed := true }
def FnCollectAppendsUptoSaid : Prop := fnCollectAppendsUptoRow.holds Try.pinned (OpenSpec.upto fnCollectAppendsSpec)

end Rows
end Go.Proofs.Ytddlfaaeckijnaa
