/-
  No cell of these rows narrows 'for every input' (looked for: loops, veiled, ifaces, maps, wideKeys, modest, calm, conditions, laid).
  DERIVED. THE GIVEN ROWS OF THIS SEAT. 9 by the template 'for every input the law returns true; each argument reads behind the call as it read before'; 0 by the template 'total and deterministic' (their statements: YtpmcoiomnkladaaTotals.lean).
  GIVEN WITH THE SEED: the statements are not yours to turn. If you find one false, say at which input.
  Laid BY PROGRAM, IN A SANDBOX (cutbox-rows.mjs): the forced cells as the released guide's own fill.sh prints them over the translation 307ceba6328d65fa… (all of the seat's roots in one cut). By AI agents, Wed Nov 11 2026. No macro, syntax, notation, axiom, sorry.
-/
import Derived.Test.YtpmcoiomnkladaaChecked
import GoSem.Claim
import GoSem.ClaimJoined
import GoSem.ClaimMapViews
import Derived.JoinedTies
import Derived.KernelRfl
namespace Go.Proofs.Ytpmcoiomnkladaa
/- THE CELL 'sum', in the pinned program and in every row, IS THE sha256 OF THE DUMP (.gsa) THAT YtpmcoiomnkladaaProg.lean LOADS. Nothing in Lean hashes anything: it is a label: what it is worth is what the hold of that sum in a sandbox is worth. -/
noncomputable def Try.pinned : Pinned := { name := "ytpmcoiomnkladaa", sum := "307ceba6328d65fa025eee96ec321f608dbfbac6ab904d1db46e87393279f1f0", checked := Try.checked }
namespace Rows
def none {H : Type} : Left H := { results := [], args := [] }

/-- 'laws.FnExactDrainKeys': WHATEVER THE INPUT: true; the input reads as it did. -/
def fnExactDrainKeysSpec : ChangeSpec := { name := "fnExactDrainKeys", fn := fun _ => fun
  | [d] => { results := [.lit (.bool true)], args := [d] }
  | _ => none }
def fnExactDrainKeysRow : OpenClaim := { program := "ytpmcoiomnkladaa", sum := "307ceba6328d65fa025eee96ec321f608dbfbac6ab904d1db46e87393279f1f0", func := "loop.example/lib-walkedmaps/laws.FnExactDrainKeys", spec := "fnExactDrainKeys", unfollowed := true, recurses := true, apart := false }
def FnExactDrainKeysSaid : Prop := fnExactDrainKeysRow.holds Try.pinned (OpenSpec.ofChange fnExactDrainKeysSpec)

/-- ITS FALSE NEIGHBOUR: 'it returns false'. Refute it at one input. -/
def fnExactDrainKeysWrong : ChangeSpec := { name := "fnExactDrainKeys", fn := fun _ => fun
  | [d] => { results := [.lit (.bool false)], args := [d] }
  | _ => none }
def FnExactDrainKeysWrongFalsely : Prop := fnExactDrainKeysRow.holds Try.pinned (OpenSpec.ofChange fnExactDrainKeysWrong)

/-- 'laws.FnExactWalkKeys': WHATEVER THE INPUT: true; the input reads as it did. -/
def fnExactWalkKeysSpec : ChangeSpec := { name := "fnExactWalkKeys", fn := fun _ => fun
  | [d1, d2] => { results := [.lit (.bool true)], args := [d1, d2] }
  | _ => none }
def fnExactWalkKeysRow : OpenClaim := { program := "ytpmcoiomnkladaa", sum := "307ceba6328d65fa025eee96ec321f608dbfbac6ab904d1db46e87393279f1f0", func := "loop.example/lib-walkedmaps/laws.FnExactWalkKeys", spec := "fnExactWalkKeys", unfollowed := true, recurses := true, apart := false }
def FnExactWalkKeysSaid : Prop := fnExactWalkKeysRow.holds Try.pinned (OpenSpec.ofChange fnExactWalkKeysSpec)

/-- ITS FALSE NEIGHBOUR: 'it returns false'. Refute it at one input. -/
def fnExactWalkKeysWrong : ChangeSpec := { name := "fnExactWalkKeys", fn := fun _ => fun
  | [d1, d2] => { results := [.lit (.bool false)], args := [d1, d2] }
  | _ => none }
def FnExactWalkKeysWrongFalsely : Prop := fnExactWalkKeysRow.holds Try.pinned (OpenSpec.ofChange fnExactWalkKeysWrong)

/-- 'laws.FnExactWalkMapValues': WHATEVER THE INPUT: true; the input reads as it did. -/
def fnExactWalkMapValuesSpec : ChangeSpec := { name := "fnExactWalkMapValues", fn := fun _ => fun
  | [d1, d2] => { results := [.lit (.bool true)], args := [d1, d2] }
  | _ => none }
def fnExactWalkMapValuesRow : OpenClaim := { program := "ytpmcoiomnkladaa", sum := "307ceba6328d65fa025eee96ec321f608dbfbac6ab904d1db46e87393279f1f0", func := "loop.example/lib-walkedmaps/laws.FnExactWalkMapValues", spec := "fnExactWalkMapValues", unfollowed := true, recurses := true, apart := false }
def FnExactWalkMapValuesSaid : Prop := fnExactWalkMapValuesRow.holds Try.pinned (OpenSpec.ofChange fnExactWalkMapValuesSpec)

/-- ITS FALSE NEIGHBOUR: 'it returns false'. Refute it at one input. -/
def fnExactWalkMapValuesWrong : ChangeSpec := { name := "fnExactWalkMapValues", fn := fun _ => fun
  | [d1, d2] => { results := [.lit (.bool false)], args := [d1, d2] }
  | _ => none }
def FnExactWalkMapValuesWrongFalsely : Prop := fnExactWalkMapValuesRow.holds Try.pinned (OpenSpec.ofChange fnExactWalkMapValuesWrong)

/-- 'laws.FnExactAppendKeys': WHATEVER THE INPUT: true; the input reads as it did. -/
def fnExactAppendKeysSpec : ChangeSpec := { name := "fnExactAppendKeys", fn := fun _ => fun
  | [d1, d2] => { results := [.lit (.bool true)], args := [d1, d2] }
  | _ => none }
def fnExactAppendKeysRow : OpenClaim := { program := "ytpmcoiomnkladaa", sum := "307ceba6328d65fa025eee96ec321f608dbfbac6ab904d1db46e87393279f1f0", func := "loop.example/lib-walkedmaps/laws.FnExactAppendKeys", spec := "fnExactAppendKeys", unfollowed := true, recurses := true, apart := false }
def FnExactAppendKeysSaid : Prop := fnExactAppendKeysRow.holds Try.pinned (OpenSpec.ofChange fnExactAppendKeysSpec)

/-- ITS FALSE NEIGHBOUR: 'it returns false'. Refute it at one input. -/
def fnExactAppendKeysWrong : ChangeSpec := { name := "fnExactAppendKeys", fn := fun _ => fun
  | [d1, d2] => { results := [.lit (.bool false)], args := [d1, d2] }
  | _ => none }
def FnExactAppendKeysWrongFalsely : Prop := fnExactAppendKeysRow.holds Try.pinned (OpenSpec.ofChange fnExactAppendKeysWrong)

/-- 'laws.FnExactWalkMap': WHATEVER THE INPUT: true; the input reads as it did. -/
def fnExactWalkMapSpec : ChangeSpec := { name := "fnExactWalkMap", fn := fun _ => fun
  | [d1, d2] => { results := [.lit (.bool true)], args := [d1, d2] }
  | _ => none }
def fnExactWalkMapRow : OpenClaim := { program := "ytpmcoiomnkladaa", sum := "307ceba6328d65fa025eee96ec321f608dbfbac6ab904d1db46e87393279f1f0", func := "loop.example/lib-walkedmaps/laws.FnExactWalkMap", spec := "fnExactWalkMap", unfollowed := true, recurses := true, apart := false }
def FnExactWalkMapSaid : Prop := fnExactWalkMapRow.holds Try.pinned (OpenSpec.ofChange fnExactWalkMapSpec)

/-- ITS FALSE NEIGHBOUR: 'it returns false'. Refute it at one input. -/
def fnExactWalkMapWrong : ChangeSpec := { name := "fnExactWalkMap", fn := fun _ => fun
  | [d1, d2] => { results := [.lit (.bool false)], args := [d1, d2] }
  | _ => none }
def FnExactWalkMapWrongFalsely : Prop := fnExactWalkMapRow.holds Try.pinned (OpenSpec.ofChange fnExactWalkMapWrong)

/-- 'laws.FnExactWalkMapWhole': WHATEVER THE INPUT: true; the input reads as it did. -/
def fnExactWalkMapWholeSpec : ChangeSpec := { name := "fnExactWalkMapWhole", fn := fun _ => fun
  | [d] => { results := [.lit (.bool true)], args := [d] }
  | _ => none }
def fnExactWalkMapWholeRow : OpenClaim := { program := "ytpmcoiomnkladaa", sum := "307ceba6328d65fa025eee96ec321f608dbfbac6ab904d1db46e87393279f1f0", func := "loop.example/lib-walkedmaps/laws.FnExactWalkMapWhole", spec := "fnExactWalkMapWhole", unfollowed := true, recurses := true, apart := false }
def FnExactWalkMapWholeSaid : Prop := fnExactWalkMapWholeRow.holds Try.pinned (OpenSpec.ofChange fnExactWalkMapWholeSpec)

/-- ITS FALSE NEIGHBOUR: 'it returns false'. Refute it at one input. -/
def fnExactWalkMapWholeWrong : ChangeSpec := { name := "fnExactWalkMapWhole", fn := fun _ => fun
  | [d] => { results := [.lit (.bool false)], args := [d] }
  | _ => none }
def FnExactWalkMapWholeWrongFalsely : Prop := fnExactWalkMapWholeRow.holds Try.pinned (OpenSpec.ofChange fnExactWalkMapWholeWrong)

/-- 'laws.FnExactCollectKeys': WHATEVER THE INPUT: true; the input reads as it did. -/
def fnExactCollectKeysSpec : ChangeSpec := { name := "fnExactCollectKeys", fn := fun _ => fun
  | [d] => { results := [.lit (.bool true)], args := [d] }
  | _ => none }
def fnExactCollectKeysRow : OpenClaim := { program := "ytpmcoiomnkladaa", sum := "307ceba6328d65fa025eee96ec321f608dbfbac6ab904d1db46e87393279f1f0", func := "loop.example/lib-walkedmaps/laws.FnExactCollectKeys", spec := "fnExactCollectKeys", unfollowed := true, recurses := true, apart := false }
def FnExactCollectKeysSaid : Prop := fnExactCollectKeysRow.holds Try.pinned (OpenSpec.ofChange fnExactCollectKeysSpec)

/-- ITS FALSE NEIGHBOUR: 'it returns false'. Refute it at one input. -/
def fnExactCollectKeysWrong : ChangeSpec := { name := "fnExactCollectKeys", fn := fun _ => fun
  | [d] => { results := [.lit (.bool false)], args := [d] }
  | _ => none }
def FnExactCollectKeysWrongFalsely : Prop := fnExactCollectKeysRow.holds Try.pinned (OpenSpec.ofChange fnExactCollectKeysWrong)

/-- 'laws.FnExactCollectMap': WHATEVER THE INPUT: true; the input reads as it did. -/
def fnExactCollectMapSpec : ChangeSpec := { name := "fnExactCollectMap", fn := fun _ => fun
  | [d] => { results := [.lit (.bool true)], args := [d] }
  | _ => none }
def fnExactCollectMapRow : OpenClaim := { program := "ytpmcoiomnkladaa", sum := "307ceba6328d65fa025eee96ec321f608dbfbac6ab904d1db46e87393279f1f0", func := "loop.example/lib-walkedmaps/laws.FnExactCollectMap", spec := "fnExactCollectMap", unfollowed := true, recurses := true, apart := false }
def FnExactCollectMapSaid : Prop := fnExactCollectMapRow.holds Try.pinned (OpenSpec.ofChange fnExactCollectMapSpec)

/-- ITS FALSE NEIGHBOUR: 'it returns false'. Refute it at one input. -/
def fnExactCollectMapWrong : ChangeSpec := { name := "fnExactCollectMap", fn := fun _ => fun
  | [d] => { results := [.lit (.bool false)], args := [d] }
  | _ => none }
def FnExactCollectMapWrongFalsely : Prop := fnExactCollectMapRow.holds Try.pinned (OpenSpec.ofChange fnExactCollectMapWrong)

/-- 'laws.FnMapWalksApart': WHATEVER THE INPUT: true; the input reads as it did. -/
def fnMapWalksApartSpec : ChangeSpec := { name := "fnMapWalksApart", fn := fun _ => fun
  | [d] => { results := [.lit (.bool true)], args := [d] }
  | _ => none }
def fnMapWalksApartRow : OpenClaim := { program := "ytpmcoiomnkladaa", sum := "307ceba6328d65fa025eee96ec321f608dbfbac6ab904d1db46e87393279f1f0", func := "loop.example/lib-walkedmaps/laws.FnMapWalksApart", spec := "fnMapWalksApart", unfollowed := true, recurses := true, apart := false }
def FnMapWalksApartSaid : Prop := fnMapWalksApartRow.holds Try.pinned (OpenSpec.ofChange fnMapWalksApartSpec)

/-- ITS FALSE NEIGHBOUR: 'it returns false'. Refute it at one input. -/
def fnMapWalksApartWrong : ChangeSpec := { name := "fnMapWalksApart", fn := fun _ => fun
  | [d] => { results := [.lit (.bool false)], args := [d] }
  | _ => none }
def FnMapWalksApartWrongFalsely : Prop := fnMapWalksApartRow.holds Try.pinned (OpenSpec.ofChange fnMapWalksApartWrong)

/- THE SECOND FORM. 'bulk': how many values and letters a reading holds, each counted each time it is reached (what is shared counts as often as it is met; a slice's spare places count too). A statement '..UptoSaid' is the law's where the arguments, and the package variables that the reading takes, are together of bulk at most 1048576: NARROWER than '..Said'. Prove '..Said' where nothing that the law and all that it calls make is longer than what came in: it says more and counts as full. Else prove '..UptoSaid'. A law counts once. -/
mutual
def uptoBulk {H : Type} : DataW H → Nat
  | .lit (.string bytes) => bytes.length + 1
  | .lit _ => 1
  | .nil => 1
  | .ptr d => uptoBulk d + 1
  | .slice elems spare => uptoBulkAll elems + uptoBulkAll spare + 1
  | .agg parts => uptoBulkAll parts + 1
  | .iface _ d => uptoBulk d + 1
  | .map entries => uptoBulkEntries entries + 1
  | .held _ => 1
def uptoBulkAll {H : Type} : List (DataW H) → Nat
  | [] => 0
  | d :: r => uptoBulk d + uptoBulkAll r
def uptoBulkEntries {H : Type} : List (Lit × DataW H) → Nat
  | [] => 0
  | x :: r => uptoBulkEntry x + uptoBulkEntries r
def uptoBulkEntry {H : Type} : Lit × DataW H → Nat
  | (.string bytes, d) => bytes.length + uptoBulk d + 1
  | (_, d) => uptoBulk d + 1
 end
def uptoSmall : (H : Type) → List (DataW H) → Bool := fun _ ds => decide (uptoBulkAll ds ≤ 1048576)
def OpenSpec.upto (s : _root_.Go.ChangeSpec) : _root_.Go.OpenSpec := { _root_.Go.OpenSpec.ofChange s with cond := some uptoSmall }

/-- 'laws.FnExactDrainKeys', WHERE WHAT IT READS IS OF BULK AT MOST 1048576: true; the input reads as it did. -/
def fnExactDrainKeysUptoRow : OpenClaim := { program := "ytpmcoiomnkladaa", sum := "307ceba6328d65fa025eee96ec321f608dbfbac6ab904d1db46e87393279f1f0", func := "loop.example/lib-walkedmaps/laws.FnExactDrainKeys", spec := "fnExactDrainKeys", unfollowed := true, recurses := true, apart := false, narrowed := true }
def FnExactDrainKeysUptoSaid : Prop := fnExactDrainKeysUptoRow.holds Try.pinned (OpenSpec.upto fnExactDrainKeysSpec)

/-- 'laws.FnExactWalkKeys', WHERE WHAT IT READS IS OF BULK AT MOST 1048576: true; the input reads as it did. -/
def fnExactWalkKeysUptoRow : OpenClaim := { program := "ytpmcoiomnkladaa", sum := "307ceba6328d65fa025eee96ec321f608dbfbac6ab904d1db46e87393279f1f0", func := "loop.example/lib-walkedmaps/laws.FnExactWalkKeys", spec := "fnExactWalkKeys", unfollowed := true, recurses := true, apart := false, narrowed := true }
def FnExactWalkKeysUptoSaid : Prop := fnExactWalkKeysUptoRow.holds Try.pinned (OpenSpec.upto fnExactWalkKeysSpec)

/-- 'laws.FnExactWalkMapValues', WHERE WHAT IT READS IS OF BULK AT MOST 1048576: true; the input reads as it did. -/
def fnExactWalkMapValuesUptoRow : OpenClaim := { program := "ytpmcoiomnkladaa", sum := "307ceba6328d65fa025eee96ec321f608dbfbac6ab904d1db46e87393279f1f0", func := "loop.example/lib-walkedmaps/laws.FnExactWalkMapValues", spec := "fnExactWalkMapValues", unfollowed := true, recurses := true, apart := false, narrowed := true }
def FnExactWalkMapValuesUptoSaid : Prop := fnExactWalkMapValuesUptoRow.holds Try.pinned (OpenSpec.upto fnExactWalkMapValuesSpec)

/-- 'laws.FnExactAppendKeys', WHERE WHAT IT READS IS OF BULK AT MOST 1048576: true; the input reads as it did. -/
def fnExactAppendKeysUptoRow : OpenClaim := { program := "ytpmcoiomnkladaa", sum := "307ceba6328d65fa025eee96ec321f608dbfbac6ab904d1db46e87393279f1f0", func := "loop.example/lib-walkedmaps/laws.FnExactAppendKeys", spec := "fnExactAppendKeys", unfollowed := true, recurses := true, apart := false, narrowed := true }
def FnExactAppendKeysUptoSaid : Prop := fnExactAppendKeysUptoRow.holds Try.pinned (OpenSpec.upto fnExactAppendKeysSpec)

/-- 'laws.FnExactWalkMap', WHERE WHAT IT READS IS OF BULK AT MOST 1048576: true; the input reads as it did. -/
def fnExactWalkMapUptoRow : OpenClaim := { program := "ytpmcoiomnkladaa", sum := "307ceba6328d65fa025eee96ec321f608dbfbac6ab904d1db46e87393279f1f0", func := "loop.example/lib-walkedmaps/laws.FnExactWalkMap", spec := "fnExactWalkMap", unfollowed := true, recurses := true, apart := false, narrowed := true }
def FnExactWalkMapUptoSaid : Prop := fnExactWalkMapUptoRow.holds Try.pinned (OpenSpec.upto fnExactWalkMapSpec)

/-- 'laws.FnExactWalkMapWhole', WHERE WHAT IT READS IS OF BULK AT MOST 1048576: true; the input reads as it did. -/
def fnExactWalkMapWholeUptoRow : OpenClaim := { program := "ytpmcoiomnkladaa", sum := "307ceba6328d65fa025eee96ec321f608dbfbac6ab904d1db46e87393279f1f0", func := "loop.example/lib-walkedmaps/laws.FnExactWalkMapWhole", spec := "fnExactWalkMapWhole", unfollowed := true, recurses := true, apart := false, narrowed := true }
def FnExactWalkMapWholeUptoSaid : Prop := fnExactWalkMapWholeUptoRow.holds Try.pinned (OpenSpec.upto fnExactWalkMapWholeSpec)

/-- 'laws.FnExactCollectKeys', WHERE WHAT IT READS IS OF BULK AT MOST 1048576: true; the input reads as it did. -/
def fnExactCollectKeysUptoRow : OpenClaim := { program := "ytpmcoiomnkladaa", sum := "307ceba6328d65fa025eee96ec321f608dbfbac6ab904d1db46e87393279f1f0", func := "loop.example/lib-walkedmaps/laws.FnExactCollectKeys", spec := "fnExactCollectKeys", unfollowed := true, recurses := true, apart := false, narrowed := true }
def FnExactCollectKeysUptoSaid : Prop := fnExactCollectKeysUptoRow.holds Try.pinned (OpenSpec.upto fnExactCollectKeysSpec)

/-- 'laws.FnExactCollectMap', WHERE WHAT IT READS IS OF BULK AT MOST 1048576: true; the input reads as it did. -/
def fnExactCollectMapUptoRow : OpenClaim := { program := "ytpmcoiomnkladaa", sum := "307ceba6328d65fa025eee96ec321f608dbfbac6ab904d1db46e87393279f1f0", func := "loop.example/lib-walkedmaps/laws.FnExactCollectMap", spec := "fnExactCollectMap", unfollowed := true, recurses := true, apart := false, narrowed := true }
def FnExactCollectMapUptoSaid : Prop := fnExactCollectMapUptoRow.holds Try.pinned (OpenSpec.upto fnExactCollectMapSpec)

/-- 'laws.FnMapWalksApart', WHERE WHAT IT READS IS OF BULK AT MOST 1048576: true; the input reads as it did. -/
def fnMapWalksApartUptoRow : OpenClaim := { program := "ytpmcoiomnkladaa", sum := "307ceba6328d65fa025eee96ec321f608dbfbac6ab904d1db46e87393279f1f0", func := "loop.example/lib-walkedmaps/laws.FnMapWalksApart", spec := "fnMapWalksApart", unfollowed := true, recurses := true, apart := false, narrowed := true }
def FnMapWalksApartUptoSaid : Prop := fnMapWalksApartUptoRow.holds Try.pinned (OpenSpec.upto fnMapWalksApartSpec)

end Rows
end Go.Proofs.Ytpmcoiomnkladaa
