/-
  No cell of these rows narrows 'for every input' (looked for: loops, veiled, ifaces, maps, wideKeys, modest, calm, conditions, laid).
  DERIVED. THE GIVEN ROWS OF THIS SEAT. 10 by the template 'for every input the law returns true; each argument reads behind the call as it read before'; 0 by the template 'total and deterministic' (their statements: YtfagmnjhpipndaaTotals.lean).
  GIVEN WITH THE SEED: the statements are not yours to turn. If you find one false, say at which input.
  Laid BY PROGRAM, IN A SANDBOX (cutbox-rows.mjs): the forced cells as the released guide's own fill.sh prints them over the translation 1807675e0f59b3a0… (all of the seat's roots in one cut). By AI agents, Wed Nov 11 2026. No macro, syntax, notation, axiom, sorry.
-/
import Derived.Test.YtfagmnjhpipndaaChecked
import GoSem.Claim
import GoSem.ClaimJoined
import GoSem.ClaimMapViews
import Derived.JoinedTies
import Derived.KernelRfl
namespace Go.Proofs.Ytfagmnjhpipndaa
/- THE CELL 'sum', in the pinned program and in every row, IS THE sha256 OF THE DUMP (.gsa) THAT YtfagmnjhpipndaaProg.lean LOADS. Nothing in Lean hashes anything: it is a label: what it is worth is what the hold of that sum in a sandbox is worth. -/
noncomputable def Try.pinned : Pinned := { name := "ytfagmnjhpipndaa", sum := "1807675e0f59b3a035628320ef475543e71971b9562133b90916c12aa4c294d1", checked := Try.checked }
namespace Rows
def none {H : Type} : Left H := { results := [], args := [] }

/-- 'laws.FnKeysAreKeys': WHATEVER THE INPUT: true; the input reads as it did. -/
def fnKeysAreKeysSpec : ChangeSpec := { name := "fnKeysAreKeys", fn := fun _ => fun
  | [d] => { results := [.lit (.bool true)], args := [d] }
  | _ => none }
def fnKeysAreKeysRow : OpenClaim := { program := "ytfagmnjhpipndaa", sum := "1807675e0f59b3a035628320ef475543e71971b9562133b90916c12aa4c294d1", func := "loop.example/lib-walkedmaps/laws.FnKeysAreKeys", spec := "fnKeysAreKeys", unfollowed := true, recurses := true, apart := false }
def FnKeysAreKeysSaid : Prop := fnKeysAreKeysRow.holds Try.pinned (OpenSpec.ofChange fnKeysAreKeysSpec)

/-- ITS FALSE NEIGHBOUR: 'it returns false'. Refute it at one input. -/
def fnKeysAreKeysWrong : ChangeSpec := { name := "fnKeysAreKeys", fn := fun _ => fun
  | [d] => { results := [.lit (.bool false)], args := [d] }
  | _ => none }
def FnKeysAreKeysWrongFalsely : Prop := fnKeysAreKeysRow.holds Try.pinned (OpenSpec.ofChange fnKeysAreKeysWrong)

/-- 'laws.FnMapsOfLists': WHATEVER THE INPUT: true; the input reads as it did. -/
def fnMapsOfListsSpec : ChangeSpec := { name := "fnMapsOfLists", fn := fun _ => fun
  | [d] => { results := [.lit (.bool true)], args := [d] }
  | _ => none }
def fnMapsOfListsRow : OpenClaim := { program := "ytfagmnjhpipndaa", sum := "1807675e0f59b3a035628320ef475543e71971b9562133b90916c12aa4c294d1", func := "loop.example/lib-walkedmaps/laws.FnMapsOfLists", spec := "fnMapsOfLists", unfollowed := true, recurses := true, apart := false }
def FnMapsOfListsSaid : Prop := fnMapsOfListsRow.holds Try.pinned (OpenSpec.ofChange fnMapsOfListsSpec)

/-- ITS FALSE NEIGHBOUR: 'it returns false'. Refute it at one input. -/
def fnMapsOfListsWrong : ChangeSpec := { name := "fnMapsOfLists", fn := fun _ => fun
  | [d] => { results := [.lit (.bool false)], args := [d] }
  | _ => none }
def FnMapsOfListsWrongFalsely : Prop := fnMapsOfListsRow.holds Try.pinned (OpenSpec.ofChange fnMapsOfListsWrong)

/-- 'laws.FnExactSorted': WHATEVER THE INPUT: true; the input reads as it did. -/
def fnExactSortedSpec : ChangeSpec := { name := "fnExactSorted", fn := fun _ => fun
  | [d] => { results := [.lit (.bool true)], args := [d] }
  | _ => none }
def fnExactSortedRow : OpenClaim := { program := "ytfagmnjhpipndaa", sum := "1807675e0f59b3a035628320ef475543e71971b9562133b90916c12aa4c294d1", func := "loop.example/lib-walkedmaps/laws.FnExactSorted", spec := "fnExactSorted", unfollowed := true, recurses := true, apart := false }
def FnExactSortedSaid : Prop := fnExactSortedRow.holds Try.pinned (OpenSpec.ofChange fnExactSortedSpec)

/-- ITS FALSE NEIGHBOUR: 'it returns false'. Refute it at one input. -/
def fnExactSortedWrong : ChangeSpec := { name := "fnExactSorted", fn := fun _ => fun
  | [d] => { results := [.lit (.bool false)], args := [d] }
  | _ => none }
def FnExactSortedWrongFalsely : Prop := fnExactSortedRow.holds Try.pinned (OpenSpec.ofChange fnExactSortedWrong)

/-- 'laws.FnSortedAnyOrder': WHATEVER THE INPUT: true; the input reads as it did. -/
def fnSortedAnyOrderSpec : ChangeSpec := { name := "fnSortedAnyOrder", fn := fun _ => fun
  | [d] => { results := [.lit (.bool true)], args := [d] }
  | _ => none }
def fnSortedAnyOrderRow : OpenClaim := { program := "ytfagmnjhpipndaa", sum := "1807675e0f59b3a035628320ef475543e71971b9562133b90916c12aa4c294d1", func := "loop.example/lib-walkedmaps/laws.FnSortedAnyOrder", spec := "fnSortedAnyOrder", unfollowed := true, recurses := true, apart := false }
def FnSortedAnyOrderSaid : Prop := fnSortedAnyOrderRow.holds Try.pinned (OpenSpec.ofChange fnSortedAnyOrderSpec)

/-- ITS FALSE NEIGHBOUR: 'it returns false'. Refute it at one input. -/
def fnSortedAnyOrderWrong : ChangeSpec := { name := "fnSortedAnyOrder", fn := fun _ => fun
  | [d] => { results := [.lit (.bool false)], args := [d] }
  | _ => none }
def FnSortedAnyOrderWrongFalsely : Prop := fnSortedAnyOrderRow.holds Try.pinned (OpenSpec.ofChange fnSortedAnyOrderWrong)

/-- 'laws.FnExactSortedValues': WHATEVER THE INPUT: true; the input reads as it did. -/
def fnExactSortedValuesSpec : ChangeSpec := { name := "fnExactSortedValues", fn := fun _ => fun
  | [d] => { results := [.lit (.bool true)], args := [d] }
  | _ => none }
def fnExactSortedValuesRow : OpenClaim := { program := "ytfagmnjhpipndaa", sum := "1807675e0f59b3a035628320ef475543e71971b9562133b90916c12aa4c294d1", func := "loop.example/lib-walkedmaps/laws.FnExactSortedValues", spec := "fnExactSortedValues", unfollowed := true, recurses := true, apart := false }
def FnExactSortedValuesSaid : Prop := fnExactSortedValuesRow.holds Try.pinned (OpenSpec.ofChange fnExactSortedValuesSpec)

/-- ITS FALSE NEIGHBOUR: 'it returns false'. Refute it at one input. -/
def fnExactSortedValuesWrong : ChangeSpec := { name := "fnExactSortedValues", fn := fun _ => fun
  | [d] => { results := [.lit (.bool false)], args := [d] }
  | _ => none }
def FnExactSortedValuesWrongFalsely : Prop := fnExactSortedValuesRow.holds Try.pinned (OpenSpec.ofChange fnExactSortedValuesWrong)

/-- 'laws.FnExactSortedKeys': WHATEVER THE INPUT: true; the input reads as it did. -/
def fnExactSortedKeysSpec : ChangeSpec := { name := "fnExactSortedKeys", fn := fun _ => fun
  | [d] => { results := [.lit (.bool true)], args := [d] }
  | _ => none }
def fnExactSortedKeysRow : OpenClaim := { program := "ytfagmnjhpipndaa", sum := "1807675e0f59b3a035628320ef475543e71971b9562133b90916c12aa4c294d1", func := "loop.example/lib-walkedmaps/laws.FnExactSortedKeys", spec := "fnExactSortedKeys", unfollowed := true, recurses := true, apart := false }
def FnExactSortedKeysSaid : Prop := fnExactSortedKeysRow.holds Try.pinned (OpenSpec.ofChange fnExactSortedKeysSpec)

/-- ITS FALSE NEIGHBOUR: 'it returns false'. Refute it at one input. -/
def fnExactSortedKeysWrong : ChangeSpec := { name := "fnExactSortedKeys", fn := fun _ => fun
  | [d] => { results := [.lit (.bool false)], args := [d] }
  | _ => none }
def FnExactSortedKeysWrongFalsely : Prop := fnExactSortedKeysRow.holds Try.pinned (OpenSpec.ofChange fnExactSortedKeysWrong)

/-- 'laws.FnExactSortedMapValues': WHATEVER THE INPUT: true; the input reads as it did. -/
def fnExactSortedMapValuesSpec : ChangeSpec := { name := "fnExactSortedMapValues", fn := fun _ => fun
  | [d] => { results := [.lit (.bool true)], args := [d] }
  | _ => none }
def fnExactSortedMapValuesRow : OpenClaim := { program := "ytfagmnjhpipndaa", sum := "1807675e0f59b3a035628320ef475543e71971b9562133b90916c12aa4c294d1", func := "loop.example/lib-walkedmaps/laws.FnExactSortedMapValues", spec := "fnExactSortedMapValues", unfollowed := true, recurses := true, apart := false }
def FnExactSortedMapValuesSaid : Prop := fnExactSortedMapValuesRow.holds Try.pinned (OpenSpec.ofChange fnExactSortedMapValuesSpec)

/-- ITS FALSE NEIGHBOUR: 'it returns false'. Refute it at one input. -/
def fnExactSortedMapValuesWrong : ChangeSpec := { name := "fnExactSortedMapValues", fn := fun _ => fun
  | [d] => { results := [.lit (.bool false)], args := [d] }
  | _ => none }
def FnExactSortedMapValuesWrongFalsely : Prop := fnExactSortedMapValuesRow.holds Try.pinned (OpenSpec.ofChange fnExactSortedMapValuesWrong)

/-- 'laws.FnDrainIsAll': WHATEVER THE INPUT: true; the input reads as it did. -/
def fnDrainIsAllSpec : ChangeSpec := { name := "fnDrainIsAll", fn := fun _ => fun
  | [d] => { results := [.lit (.bool true)], args := [d] }
  | _ => none }
def fnDrainIsAllRow : OpenClaim := { program := "ytfagmnjhpipndaa", sum := "1807675e0f59b3a035628320ef475543e71971b9562133b90916c12aa4c294d1", func := "loop.example/lib-walkedmaps/laws.FnDrainIsAll", spec := "fnDrainIsAll", unfollowed := true, recurses := true, apart := false }
def FnDrainIsAllSaid : Prop := fnDrainIsAllRow.holds Try.pinned (OpenSpec.ofChange fnDrainIsAllSpec)

/-- ITS FALSE NEIGHBOUR: 'it returns false'. Refute it at one input. -/
def fnDrainIsAllWrong : ChangeSpec := { name := "fnDrainIsAll", fn := fun _ => fun
  | [d] => { results := [.lit (.bool false)], args := [d] }
  | _ => none }
def FnDrainIsAllWrongFalsely : Prop := fnDrainIsAllRow.holds Try.pinned (OpenSpec.ofChange fnDrainIsAllWrong)

/-- 'laws.FnValuesAreValues': WHATEVER THE INPUT: true; the input reads as it did. -/
def fnValuesAreValuesSpec : ChangeSpec := { name := "fnValuesAreValues", fn := fun _ => fun
  | [d] => { results := [.lit (.bool true)], args := [d] }
  | _ => none }
def fnValuesAreValuesRow : OpenClaim := { program := "ytfagmnjhpipndaa", sum := "1807675e0f59b3a035628320ef475543e71971b9562133b90916c12aa4c294d1", func := "loop.example/lib-walkedmaps/laws.FnValuesAreValues", spec := "fnValuesAreValues", unfollowed := true, recurses := true, apart := false }
def FnValuesAreValuesSaid : Prop := fnValuesAreValuesRow.holds Try.pinned (OpenSpec.ofChange fnValuesAreValuesSpec)

/-- ITS FALSE NEIGHBOUR: 'it returns false'. Refute it at one input. -/
def fnValuesAreValuesWrong : ChangeSpec := { name := "fnValuesAreValues", fn := fun _ => fun
  | [d] => { results := [.lit (.bool false)], args := [d] }
  | _ => none }
def FnValuesAreValuesWrongFalsely : Prop := fnValuesAreValuesRow.holds Try.pinned (OpenSpec.ofChange fnValuesAreValuesWrong)

/-- 'laws.FnSortedOfChunks': WHATEVER THE INPUT: true; the input reads as it did. -/
def fnSortedOfChunksSpec : ChangeSpec := { name := "fnSortedOfChunks", fn := fun _ => fun
  | [d] => { results := [.lit (.bool true)], args := [d] }
  | _ => none }
def fnSortedOfChunksRow : OpenClaim := { program := "ytfagmnjhpipndaa", sum := "1807675e0f59b3a035628320ef475543e71971b9562133b90916c12aa4c294d1", func := "loop.example/lib-walkedmaps/laws.FnSortedOfChunks", spec := "fnSortedOfChunks", unfollowed := true, recurses := true, apart := false }
def FnSortedOfChunksSaid : Prop := fnSortedOfChunksRow.holds Try.pinned (OpenSpec.ofChange fnSortedOfChunksSpec)

/-- ITS FALSE NEIGHBOUR: 'it returns false'. Refute it at one input. -/
def fnSortedOfChunksWrong : ChangeSpec := { name := "fnSortedOfChunks", fn := fun _ => fun
  | [d] => { results := [.lit (.bool false)], args := [d] }
  | _ => none }
def FnSortedOfChunksWrongFalsely : Prop := fnSortedOfChunksRow.holds Try.pinned (OpenSpec.ofChange fnSortedOfChunksWrong)

/- THE SECOND FORM. 'bulk': how many values and letters a reading holds, each counted each time it is reached (what is shared counts as often as it is met; a slice's spare places count too). A statement '..UptoSaid' is the law's where the arguments, and the package variables that the reading takes, are together of bulk at most 1048576: NARROWER than '..Said'. Prove '..Said' where nothing that the law and all that it calls make is longer than what came in: it says more and counts as full. Else prove '..UptoSaid'. A law counts once. -/
mutual
def uptoBulk {H : Type} : DataW H → Nat
  | .lit (.string bytes) => bytes.length + 1
  | .lit _ => 1
  | .nil => 1
  | .ptr d => uptoBulk d + 1
  | .slice elems spare => uptoBulkAll elems + uptoBulkAll spare + 1
  | .agg parts => uptoBulkAll parts + 1
  | .iface _ d => uptoBulk d + 1
  | .map entries => uptoBulkEntries entries + 1
  | .held _ => 1
def uptoBulkAll {H : Type} : List (DataW H) → Nat
  | [] => 0
  | d :: r => uptoBulk d + uptoBulkAll r
def uptoBulkEntries {H : Type} : List (Lit × DataW H) → Nat
  | [] => 0
  | x :: r => uptoBulkEntry x + uptoBulkEntries r
def uptoBulkEntry {H : Type} : Lit × DataW H → Nat
  | (.string bytes, d) => bytes.length + uptoBulk d + 1
  | (_, d) => uptoBulk d + 1
 end
def uptoSmall : (H : Type) → List (DataW H) → Bool := fun _ ds => decide (uptoBulkAll ds ≤ 1048576)
def OpenSpec.upto (s : _root_.Go.ChangeSpec) : _root_.Go.OpenSpec := { _root_.Go.OpenSpec.ofChange s with cond := some uptoSmall }

/-- 'laws.FnKeysAreKeys', WHERE WHAT IT READS IS OF BULK AT MOST 1048576: true; the input reads as it did. -/
def fnKeysAreKeysUptoRow : OpenClaim := { program := "ytfagmnjhpipndaa", sum := "1807675e0f59b3a035628320ef475543e71971b9562133b90916c12aa4c294d1", func := "loop.example/lib-walkedmaps/laws.FnKeysAreKeys", spec := "fnKeysAreKeys", unfollowed := true, recurses := true, apart := false, narrowed := true }
def FnKeysAreKeysUptoSaid : Prop := fnKeysAreKeysUptoRow.holds Try.pinned (OpenSpec.upto fnKeysAreKeysSpec)

/-- 'laws.FnMapsOfLists', WHERE WHAT IT READS IS OF BULK AT MOST 1048576: true; the input reads as it did. -/
def fnMapsOfListsUptoRow : OpenClaim := { program := "ytfagmnjhpipndaa", sum := "1807675e0f59b3a035628320ef475543e71971b9562133b90916c12aa4c294d1", func := "loop.example/lib-walkedmaps/laws.FnMapsOfLists", spec := "fnMapsOfLists", unfollowed := true, recurses := true, apart := false, narrowed := true }
def FnMapsOfListsUptoSaid : Prop := fnMapsOfListsUptoRow.holds Try.pinned (OpenSpec.upto fnMapsOfListsSpec)

/-- 'laws.FnExactSorted', WHERE WHAT IT READS IS OF BULK AT MOST 1048576: true; the input reads as it did. -/
def fnExactSortedUptoRow : OpenClaim := { program := "ytfagmnjhpipndaa", sum := "1807675e0f59b3a035628320ef475543e71971b9562133b90916c12aa4c294d1", func := "loop.example/lib-walkedmaps/laws.FnExactSorted", spec := "fnExactSorted", unfollowed := true, recurses := true, apart := false, narrowed := true }
def FnExactSortedUptoSaid : Prop := fnExactSortedUptoRow.holds Try.pinned (OpenSpec.upto fnExactSortedSpec)

/-- 'laws.FnSortedAnyOrder', WHERE WHAT IT READS IS OF BULK AT MOST 1048576: true; the input reads as it did. -/
def fnSortedAnyOrderUptoRow : OpenClaim := { program := "ytfagmnjhpipndaa", sum := "1807675e0f59b3a035628320ef475543e71971b9562133b90916c12aa4c294d1", func := "loop.example/lib-walkedmaps/laws.FnSortedAnyOrder", spec := "fnSortedAnyOrder", unfollowed := true, recurses := true, apart := false, narrowed := true }
def FnSortedAnyOrderUptoSaid : Prop := fnSortedAnyOrderUptoRow.holds Try.pinned (OpenSpec.upto fnSortedAnyOrderSpec)

/-- 'laws.FnExactSortedValues', WHERE WHAT IT READS IS OF BULK AT MOST 1048576: true; the input reads as it did. -/
def fnExactSortedValuesUptoRow : OpenClaim := { program := "ytfagmnjhpipndaa", sum := "1807675e0f59b3a035628320ef475543e71971b9562133b90916c12aa4c294d1", func := "loop.example/lib-walkedmaps/laws.FnExactSortedValues", spec := "fnExactSortedValues", unfollowed := true, recurses := true, apart := false, narrowed := true }
def FnExactSortedValuesUptoSaid : Prop := fnExactSortedValuesUptoRow.holds Try.pinned (OpenSpec.upto fnExactSortedValuesSpec)

/-- 'laws.FnExactSortedKeys', WHERE WHAT IT READS IS OF BULK AT MOST 1048576: true; the input reads as it did. -/
def fnExactSortedKeysUptoRow : OpenClaim := { program := "ytfagmnjhpipndaa", sum := "1807675e0f59b3a035628320ef475543e71971b9562133b90916c12aa4c294d1", func := "loop.example/lib-walkedmaps/laws.FnExactSortedKeys", spec := "fnExactSortedKeys", unfollowed := true, recurses := true, apart := false, narrowed := true }
def FnExactSortedKeysUptoSaid : Prop := fnExactSortedKeysUptoRow.holds Try.pinned (OpenSpec.upto fnExactSortedKeysSpec)

/-- 'laws.FnExactSortedMapValues', WHERE WHAT IT READS IS OF BULK AT MOST 1048576: true; the input reads as it did. -/
def fnExactSortedMapValuesUptoRow : OpenClaim := { program := "ytfagmnjhpipndaa", sum := "1807675e0f59b3a035628320ef475543e71971b9562133b90916c12aa4c294d1", func := "loop.example/lib-walkedmaps/laws.FnExactSortedMapValues", spec := "fnExactSortedMapValues", unfollowed := true, recurses := true, apart := false, narrowed := true }
def FnExactSortedMapValuesUptoSaid : Prop := fnExactSortedMapValuesUptoRow.holds Try.pinned (OpenSpec.upto fnExactSortedMapValuesSpec)

/-- 'laws.FnDrainIsAll', WHERE WHAT IT READS IS OF BULK AT MOST 1048576: true; the input reads as it did. -/
def fnDrainIsAllUptoRow : OpenClaim := { program := "ytfagmnjhpipndaa", sum := "1807675e0f59b3a035628320ef475543e71971b9562133b90916c12aa4c294d1", func := "loop.example/lib-walkedmaps/laws.FnDrainIsAll", spec := "fnDrainIsAll", unfollowed := true, recurses := true, apart := false, narrowed := true }
def FnDrainIsAllUptoSaid : Prop := fnDrainIsAllUptoRow.holds Try.pinned (OpenSpec.upto fnDrainIsAllSpec)

/-- 'laws.FnValuesAreValues', WHERE WHAT IT READS IS OF BULK AT MOST 1048576: true; the input reads as it did. -/
def fnValuesAreValuesUptoRow : OpenClaim := { program := "ytfagmnjhpipndaa", sum := "1807675e0f59b3a035628320ef475543e71971b9562133b90916c12aa4c294d1", func := "loop.example/lib-walkedmaps/laws.FnValuesAreValues", spec := "fnValuesAreValues", unfollowed := true, recurses := true, apart := false, narrowed := true }
def FnValuesAreValuesUptoSaid : Prop := fnValuesAreValuesUptoRow.holds Try.pinned (OpenSpec.upto fnValuesAreValuesSpec)

/-- 'laws.FnSortedOfChunks', WHERE WHAT IT READS IS OF BULK AT MOST 1048576: true; the input reads as it did. -/
def fnSortedOfChunksUptoRow : OpenClaim := { program := "ytfagmnjhpipndaa", sum := "1807675e0f59b3a035628320ef475543e71971b9562133b90916c12aa4c294d1", func := "loop.example/lib-walkedmaps/laws.FnSortedOfChunks", spec := "fnSortedOfChunks", unfollowed := true, recurses := true, apart := false, narrowed := true }
def FnSortedOfChunksUptoSaid : Prop := fnSortedOfChunksUptoRow.holds Try.pinned (OpenSpec.upto fnSortedOfChunksSpec)

end Rows
end Go.Proofs.Ytfagmnjhpipndaa
