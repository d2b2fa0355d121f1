/-
  No cell of these rows narrows 'for every input' (looked for: loops, veiled, ifaces, maps, wideKeys, modest, calm, conditions, laid).
  DERIVED. THE GIVEN ROWS OF THIS SEAT. 11 by the template 'for every input the law returns true; each argument reads behind the call as it read before'; 0 by the template 'total and deterministic' (their statements: YtaeeiociiojciaaTotals.lean).
  GIVEN WITH THE SEED: the statements are not yours to turn. If you find one false, say at which input.
  Laid BY PROGRAM, IN A SANDBOX (cutbox-rows.mjs): the forced cells as the released guide's own fill.sh prints them over the translation 9d214cdcf71f85d1… (all of the seat's roots in one cut). By AI agents, Wed Nov 11 2026. No macro, syntax, notation, axiom, sorry.
-/
import Derived.Test.YtaeeiociiojciaaChecked
import GoSem.Claim
import GoSem.ClaimJoined
import GoSem.ClaimMapViews
import Derived.JoinedTies
import Derived.KernelRfl
namespace Go.Proofs.Ytaeeiociiojciaa
/- THE CELL 'sum', in the pinned program and in every row, IS THE sha256 OF THE DUMP (.gsa) THAT YtaeeiociiojciaaProg.lean LOADS. Nothing in Lean hashes anything: it is a label: what it is worth is what the hold of that sum in a sandbox is worth. -/
noncomputable def Try.pinned : Pinned := { name := "ytaeeiociiojciaa", sum := "9d214cdcf71f85d17d0c31cdc4deb4bf7230f079b27bc52c11ad7cfd5e789a6b", checked := Try.checked }
namespace Rows
def none {H : Type} : Left H := { results := [], args := [] }

/-- 'laws.FnExactCollectAll': WHATEVER THE INPUT: true; the input reads as it did. -/
def fnExactCollectAllSpec : ChangeSpec := { name := "fnExactCollectAll", fn := fun _ => fun
  | [d] => { results := [.lit (.bool true)], args := [d] }
  | _ => none }
def fnExactCollectAllRow : OpenClaim := { program := "ytaeeiociiojciaa", sum := "9d214cdcf71f85d17d0c31cdc4deb4bf7230f079b27bc52c11ad7cfd5e789a6b", func := "loop.example/lib-walkedmaps/laws.FnExactCollectAll", spec := "fnExactCollectAll", unfollowed := true, recurses := true, apart := false }
def FnExactCollectAllSaid : Prop := fnExactCollectAllRow.holds Try.pinned (OpenSpec.ofChange fnExactCollectAllSpec)

/-- ITS FALSE NEIGHBOUR: 'it returns false'. Refute it at one input. -/
def fnExactCollectAllWrong : ChangeSpec := { name := "fnExactCollectAll", fn := fun _ => fun
  | [d] => { results := [.lit (.bool false)], args := [d] }
  | _ => none }
def FnExactCollectAllWrongFalsely : Prop := fnExactCollectAllRow.holds Try.pinned (OpenSpec.ofChange fnExactCollectAllWrong)

/-- 'laws.FnExactCollectBackward': WHATEVER THE INPUT: true; the input reads as it did. -/
def fnExactCollectBackwardSpec : ChangeSpec := { name := "fnExactCollectBackward", fn := fun _ => fun
  | [d] => { results := [.lit (.bool true)], args := [d] }
  | _ => none }
def fnExactCollectBackwardRow : OpenClaim := { program := "ytaeeiociiojciaa", sum := "9d214cdcf71f85d17d0c31cdc4deb4bf7230f079b27bc52c11ad7cfd5e789a6b", func := "loop.example/lib-walkedmaps/laws.FnExactCollectBackward", spec := "fnExactCollectBackward", unfollowed := true, recurses := true, apart := false }
def FnExactCollectBackwardSaid : Prop := fnExactCollectBackwardRow.holds Try.pinned (OpenSpec.ofChange fnExactCollectBackwardSpec)

/-- ITS FALSE NEIGHBOUR: 'it returns false'. Refute it at one input. -/
def fnExactCollectBackwardWrong : ChangeSpec := { name := "fnExactCollectBackward", fn := fun _ => fun
  | [d] => { results := [.lit (.bool false)], args := [d] }
  | _ => none }
def FnExactCollectBackwardWrongFalsely : Prop := fnExactCollectBackwardRow.holds Try.pinned (OpenSpec.ofChange fnExactCollectBackwardWrong)

/-- 'laws.FnExactMapCollect': WHATEVER THE INPUT: true; the input reads as it did. -/
def fnExactMapCollectSpec : ChangeSpec := { name := "fnExactMapCollect", fn := fun _ => fun
  | [d] => { results := [.lit (.bool true)], args := [d] }
  | _ => none }
def fnExactMapCollectRow : OpenClaim := { program := "ytaeeiociiojciaa", sum := "9d214cdcf71f85d17d0c31cdc4deb4bf7230f079b27bc52c11ad7cfd5e789a6b", func := "loop.example/lib-walkedmaps/laws.FnExactMapCollect", spec := "fnExactMapCollect", unfollowed := true, recurses := true, apart := false }
def FnExactMapCollectSaid : Prop := fnExactMapCollectRow.holds Try.pinned (OpenSpec.ofChange fnExactMapCollectSpec)

/-- ITS FALSE NEIGHBOUR: 'it returns false'. Refute it at one input. -/
def fnExactMapCollectWrong : ChangeSpec := { name := "fnExactMapCollect", fn := fun _ => fun
  | [d] => { results := [.lit (.bool false)], args := [d] }
  | _ => none }
def FnExactMapCollectWrongFalsely : Prop := fnExactMapCollectRow.holds Try.pinned (OpenSpec.ofChange fnExactMapCollectWrong)

/-- 'laws.FnExactMapCollectAgain': WHATEVER THE INPUT: true; the input reads as it did. -/
def fnExactMapCollectAgainSpec : ChangeSpec := { name := "fnExactMapCollectAgain", fn := fun _ => fun
  | [d] => { results := [.lit (.bool true)], args := [d] }
  | _ => none }
def fnExactMapCollectAgainRow : OpenClaim := { program := "ytaeeiociiojciaa", sum := "9d214cdcf71f85d17d0c31cdc4deb4bf7230f079b27bc52c11ad7cfd5e789a6b", func := "loop.example/lib-walkedmaps/laws.FnExactMapCollectAgain", spec := "fnExactMapCollectAgain", unfollowed := true, recurses := true, apart := false }
def FnExactMapCollectAgainSaid : Prop := fnExactMapCollectAgainRow.holds Try.pinned (OpenSpec.ofChange fnExactMapCollectAgainSpec)

/-- ITS FALSE NEIGHBOUR: 'it returns false'. Refute it at one input. -/
def fnExactMapCollectAgainWrong : ChangeSpec := { name := "fnExactMapCollectAgain", fn := fun _ => fun
  | [d] => { results := [.lit (.bool false)], args := [d] }
  | _ => none }
def FnExactMapCollectAgainWrongFalsely : Prop := fnExactMapCollectAgainRow.holds Try.pinned (OpenSpec.ofChange fnExactMapCollectAgainWrong)

/-- 'laws.FnExactInsertAll': WHATEVER THE INPUT: true; the input reads as it did. -/
def fnExactInsertAllSpec : ChangeSpec := { name := "fnExactInsertAll", fn := fun _ => fun
  | [d1, d2] => { results := [.lit (.bool true)], args := [d1, d2] }
  | _ => none }
def fnExactInsertAllRow : OpenClaim := { program := "ytaeeiociiojciaa", sum := "9d214cdcf71f85d17d0c31cdc4deb4bf7230f079b27bc52c11ad7cfd5e789a6b", func := "loop.example/lib-walkedmaps/laws.FnExactInsertAll", spec := "fnExactInsertAll", unfollowed := true, recurses := true, apart := false }
def FnExactInsertAllSaid : Prop := fnExactInsertAllRow.holds Try.pinned (OpenSpec.ofChange fnExactInsertAllSpec)

/-- ITS FALSE NEIGHBOUR: 'it returns false'. Refute it at one input. -/
def fnExactInsertAllWrong : ChangeSpec := { name := "fnExactInsertAll", fn := fun _ => fun
  | [d1, d2] => { results := [.lit (.bool false)], args := [d1, d2] }
  | _ => none }
def FnExactInsertAllWrongFalsely : Prop := fnExactInsertAllRow.holds Try.pinned (OpenSpec.ofChange fnExactInsertAllWrong)

/-- 'laws.FnExactInsertMap': WHATEVER THE INPUT: true; the input reads as it did. -/
def fnExactInsertMapSpec : ChangeSpec := { name := "fnExactInsertMap", fn := fun _ => fun
  | [d1, d2] => { results := [.lit (.bool true)], args := [d1, d2] }
  | _ => none }
def fnExactInsertMapRow : OpenClaim := { program := "ytaeeiociiojciaa", sum := "9d214cdcf71f85d17d0c31cdc4deb4bf7230f079b27bc52c11ad7cfd5e789a6b", func := "loop.example/lib-walkedmaps/laws.FnExactInsertMap", spec := "fnExactInsertMap", unfollowed := true, recurses := true, apart := false }
def FnExactInsertMapSaid : Prop := fnExactInsertMapRow.holds Try.pinned (OpenSpec.ofChange fnExactInsertMapSpec)

/-- ITS FALSE NEIGHBOUR: 'it returns false'. Refute it at one input. -/
def fnExactInsertMapWrong : ChangeSpec := { name := "fnExactInsertMap", fn := fun _ => fun
  | [d1, d2] => { results := [.lit (.bool false)], args := [d1, d2] }
  | _ => none }
def FnExactInsertMapWrongFalsely : Prop := fnExactInsertMapRow.holds Try.pinned (OpenSpec.ofChange fnExactInsertMapWrong)

/-- 'laws.FnExactMapInsert': WHATEVER THE INPUT: true; the input reads as it did. -/
def fnExactMapInsertSpec : ChangeSpec := { name := "fnExactMapInsert", fn := fun _ => fun
  | [d1, d2] => { results := [.lit (.bool true)], args := [d1, d2] }
  | _ => none }
def fnExactMapInsertRow : OpenClaim := { program := "ytaeeiociiojciaa", sum := "9d214cdcf71f85d17d0c31cdc4deb4bf7230f079b27bc52c11ad7cfd5e789a6b", func := "loop.example/lib-walkedmaps/laws.FnExactMapInsert", spec := "fnExactMapInsert", unfollowed := true, recurses := true, apart := false }
def FnExactMapInsertSaid : Prop := fnExactMapInsertRow.holds Try.pinned (OpenSpec.ofChange fnExactMapInsertSpec)

/-- ITS FALSE NEIGHBOUR: 'it returns false'. Refute it at one input. -/
def fnExactMapInsertWrong : ChangeSpec := { name := "fnExactMapInsert", fn := fun _ => fun
  | [d1, d2] => { results := [.lit (.bool false)], args := [d1, d2] }
  | _ => none }
def FnExactMapInsertWrongFalsely : Prop := fnExactMapInsertRow.holds Try.pinned (OpenSpec.ofChange fnExactMapInsertWrong)

/-- 'laws.FnExactMapInsertAgain': WHATEVER THE INPUT: true; the input reads as it did. -/
def fnExactMapInsertAgainSpec : ChangeSpec := { name := "fnExactMapInsertAgain", fn := fun _ => fun
  | [d1, d2] => { results := [.lit (.bool true)], args := [d1, d2] }
  | _ => none }
def fnExactMapInsertAgainRow : OpenClaim := { program := "ytaeeiociiojciaa", sum := "9d214cdcf71f85d17d0c31cdc4deb4bf7230f079b27bc52c11ad7cfd5e789a6b", func := "loop.example/lib-walkedmaps/laws.FnExactMapInsertAgain", spec := "fnExactMapInsertAgain", unfollowed := true, recurses := true, apart := false }
def FnExactMapInsertAgainSaid : Prop := fnExactMapInsertAgainRow.holds Try.pinned (OpenSpec.ofChange fnExactMapInsertAgainSpec)

/-- ITS FALSE NEIGHBOUR: 'it returns false'. Refute it at one input. -/
def fnExactMapInsertAgainWrong : ChangeSpec := { name := "fnExactMapInsertAgain", fn := fun _ => fun
  | [d1, d2] => { results := [.lit (.bool false)], args := [d1, d2] }
  | _ => none }
def FnExactMapInsertAgainWrongFalsely : Prop := fnExactMapInsertAgainRow.holds Try.pinned (OpenSpec.ofChange fnExactMapInsertAgainWrong)

/-- 'laws.FnInsertCollects': WHATEVER THE INPUT: true; the input reads as it did. -/
def fnInsertCollectsSpec : ChangeSpec := { name := "fnInsertCollects", fn := fun _ => fun
  | [d] => { results := [.lit (.bool true)], args := [d] }
  | _ => none }
def fnInsertCollectsRow : OpenClaim := { program := "ytaeeiociiojciaa", sum := "9d214cdcf71f85d17d0c31cdc4deb4bf7230f079b27bc52c11ad7cfd5e789a6b", func := "loop.example/lib-walkedmaps/laws.FnInsertCollects", spec := "fnInsertCollects", unfollowed := true, recurses := true, apart := false }
def FnInsertCollectsSaid : Prop := fnInsertCollectsRow.holds Try.pinned (OpenSpec.ofChange fnInsertCollectsSpec)

/-- ITS FALSE NEIGHBOUR: 'it returns false'. Refute it at one input. -/
def fnInsertCollectsWrong : ChangeSpec := { name := "fnInsertCollects", fn := fun _ => fun
  | [d] => { results := [.lit (.bool false)], args := [d] }
  | _ => none }
def FnInsertCollectsWrongFalsely : Prop := fnInsertCollectsRow.holds Try.pinned (OpenSpec.ofChange fnInsertCollectsWrong)

/-- 'laws.FnInsertTwice': WHATEVER THE INPUT: true; the input reads as it did. -/
def fnInsertTwiceSpec : ChangeSpec := { name := "fnInsertTwice", fn := fun _ => fun
  | [d] => { results := [.lit (.bool true)], args := [d] }
  | _ => none }
def fnInsertTwiceRow : OpenClaim := { program := "ytaeeiociiojciaa", sum := "9d214cdcf71f85d17d0c31cdc4deb4bf7230f079b27bc52c11ad7cfd5e789a6b", func := "loop.example/lib-walkedmaps/laws.FnInsertTwice", spec := "fnInsertTwice", unfollowed := true, recurses := true, apart := false }
def FnInsertTwiceSaid : Prop := fnInsertTwiceRow.holds Try.pinned (OpenSpec.ofChange fnInsertTwiceSpec)

/-- ITS FALSE NEIGHBOUR: 'it returns false'. Refute it at one input. -/
def fnInsertTwiceWrong : ChangeSpec := { name := "fnInsertTwice", fn := fun _ => fun
  | [d] => { results := [.lit (.bool false)], args := [d] }
  | _ => none }
def FnInsertTwiceWrongFalsely : Prop := fnInsertTwiceRow.holds Try.pinned (OpenSpec.ofChange fnInsertTwiceWrong)

/-- 'laws.FnInsertAllIsMap': WHATEVER THE INPUT: true; the input reads as it did. -/
def fnInsertAllIsMapSpec : ChangeSpec := { name := "fnInsertAllIsMap", fn := fun _ => fun
  | [d] => { results := [.lit (.bool true)], args := [d] }
  | _ => none }
def fnInsertAllIsMapRow : OpenClaim := { program := "ytaeeiociiojciaa", sum := "9d214cdcf71f85d17d0c31cdc4deb4bf7230f079b27bc52c11ad7cfd5e789a6b", func := "loop.example/lib-walkedmaps/laws.FnInsertAllIsMap", spec := "fnInsertAllIsMap", unfollowed := true, recurses := true, apart := false }
def FnInsertAllIsMapSaid : Prop := fnInsertAllIsMapRow.holds Try.pinned (OpenSpec.ofChange fnInsertAllIsMapSpec)

/-- ITS FALSE NEIGHBOUR: 'it returns false'. Refute it at one input. -/
def fnInsertAllIsMapWrong : ChangeSpec := { name := "fnInsertAllIsMap", fn := fun _ => fun
  | [d] => { results := [.lit (.bool false)], args := [d] }
  | _ => none }
def FnInsertAllIsMapWrongFalsely : Prop := fnInsertAllIsMapRow.holds Try.pinned (OpenSpec.ofChange fnInsertAllIsMapWrong)

/- THE SECOND FORM. 'bulk': how many values and letters a reading holds, each counted each time it is reached (what is shared counts as often as it is met; a slice's spare places count too). A statement '..UptoSaid' is the law's where the arguments, and the package variables that the reading takes, are together of bulk at most 1048576: NARROWER than '..Said'. Prove '..Said' where nothing that the law and all that it calls make is longer than what came in: it says more and counts as full. Else prove '..UptoSaid'. A law counts once. -/
mutual
def uptoBulk {H : Type} : DataW H → Nat
  | .lit (.string bytes) => bytes.length + 1
  | .lit _ => 1
  | .nil => 1
  | .ptr d => uptoBulk d + 1
  | .slice elems spare => uptoBulkAll elems + uptoBulkAll spare + 1
  | .agg parts => uptoBulkAll parts + 1
  | .iface _ d => uptoBulk d + 1
  | .map entries => uptoBulkEntries entries + 1
  | .held _ => 1
def uptoBulkAll {H : Type} : List (DataW H) → Nat
  | [] => 0
  | d :: r => uptoBulk d + uptoBulkAll r
def uptoBulkEntries {H : Type} : List (Lit × DataW H) → Nat
  | [] => 0
  | x :: r => uptoBulkEntry x + uptoBulkEntries r
def uptoBulkEntry {H : Type} : Lit × DataW H → Nat
  | (.string bytes, d) => bytes.length + uptoBulk d + 1
  | (_, d) => uptoBulk d + 1
 end
def uptoSmall : (H : Type) → List (DataW H) → Bool := fun _ ds => decide (uptoBulkAll ds ≤ 1048576)
def OpenSpec.upto (s : _root_.Go.ChangeSpec) : _root_.Go.OpenSpec := { _root_.Go.OpenSpec.ofChange s with cond := some uptoSmall }

/-- 'laws.FnExactCollectAll', WHERE WHAT IT READS IS OF BULK AT MOST 1048576: true; the input reads as it did. -/
def fnExactCollectAllUptoRow : OpenClaim := { program := "ytaeeiociiojciaa", sum := "9d214cdcf71f85d17d0c31cdc4deb4bf7230f079b27bc52c11ad7cfd5e789a6b", func := "loop.example/lib-walkedmaps/laws.FnExactCollectAll", spec := "fnExactCollectAll", unfollowed := true, recurses := true, apart := false, narrowed := true }
def FnExactCollectAllUptoSaid : Prop := fnExactCollectAllUptoRow.holds Try.pinned (OpenSpec.upto fnExactCollectAllSpec)

/-- 'laws.FnExactCollectBackward', WHERE WHAT IT READS IS OF BULK AT MOST 1048576: true; the input reads as it did. -/
def fnExactCollectBackwardUptoRow : OpenClaim := { program := "ytaeeiociiojciaa", sum := "9d214cdcf71f85d17d0c31cdc4deb4bf7230f079b27bc52c11ad7cfd5e789a6b", func := "loop.example/lib-walkedmaps/laws.FnExactCollectBackward", spec := "fnExactCollectBackward", unfollowed := true, recurses := true, apart := false, narrowed := true }
def FnExactCollectBackwardUptoSaid : Prop := fnExactCollectBackwardUptoRow.holds Try.pinned (OpenSpec.upto fnExactCollectBackwardSpec)

/-- 'laws.FnExactMapCollect', WHERE WHAT IT READS IS OF BULK AT MOST 1048576: true; the input reads as it did. -/
def fnExactMapCollectUptoRow : OpenClaim := { program := "ytaeeiociiojciaa", sum := "9d214cdcf71f85d17d0c31cdc4deb4bf7230f079b27bc52c11ad7cfd5e789a6b", func := "loop.example/lib-walkedmaps/laws.FnExactMapCollect", spec := "fnExactMapCollect", unfollowed := true, recurses := true, apart := false, narrowed := true }
def FnExactMapCollectUptoSaid : Prop := fnExactMapCollectUptoRow.holds Try.pinned (OpenSpec.upto fnExactMapCollectSpec)

/-- 'laws.FnExactMapCollectAgain', WHERE WHAT IT READS IS OF BULK AT MOST 1048576: true; the input reads as it did. -/
def fnExactMapCollectAgainUptoRow : OpenClaim := { program := "ytaeeiociiojciaa", sum := "9d214cdcf71f85d17d0c31cdc4deb4bf7230f079b27bc52c11ad7cfd5e789a6b", func := "loop.example/lib-walkedmaps/laws.FnExactMapCollectAgain", spec := "fnExactMapCollectAgain", unfollowed := true, recurses := true, apart := false, narrowed := true }
def FnExactMapCollectAgainUptoSaid : Prop := fnExactMapCollectAgainUptoRow.holds Try.pinned (OpenSpec.upto fnExactMapCollectAgainSpec)

/-- 'laws.FnExactInsertAll', WHERE WHAT IT READS IS OF BULK AT MOST 1048576: true; the input reads as it did. -/
def fnExactInsertAllUptoRow : OpenClaim := { program := "ytaeeiociiojciaa", sum := "9d214cdcf71f85d17d0c31cdc4deb4bf7230f079b27bc52c11ad7cfd5e789a6b", func := "loop.example/lib-walkedmaps/laws.FnExactInsertAll", spec := "fnExactInsertAll", unfollowed := true, recurses := true, apart := false, narrowed := true }
def FnExactInsertAllUptoSaid : Prop := fnExactInsertAllUptoRow.holds Try.pinned (OpenSpec.upto fnExactInsertAllSpec)

/-- 'laws.FnExactInsertMap', WHERE WHAT IT READS IS OF BULK AT MOST 1048576: true; the input reads as it did. -/
def fnExactInsertMapUptoRow : OpenClaim := { program := "ytaeeiociiojciaa", sum := "9d214cdcf71f85d17d0c31cdc4deb4bf7230f079b27bc52c11ad7cfd5e789a6b", func := "loop.example/lib-walkedmaps/laws.FnExactInsertMap", spec := "fnExactInsertMap", unfollowed := true, recurses := true, apart := false, narrowed := true }
def FnExactInsertMapUptoSaid : Prop := fnExactInsertMapUptoRow.holds Try.pinned (OpenSpec.upto fnExactInsertMapSpec)

/-- 'laws.FnExactMapInsert', WHERE WHAT IT READS IS OF BULK AT MOST 1048576: true; the input reads as it did. -/
def fnExactMapInsertUptoRow : OpenClaim := { program := "ytaeeiociiojciaa", sum := "9d214cdcf71f85d17d0c31cdc4deb4bf7230f079b27bc52c11ad7cfd5e789a6b", func := "loop.example/lib-walkedmaps/laws.FnExactMapInsert", spec := "fnExactMapInsert", unfollowed := true, recurses := true, apart := false, narrowed := true }
def FnExactMapInsertUptoSaid : Prop := fnExactMapInsertUptoRow.holds Try.pinned (OpenSpec.upto fnExactMapInsertSpec)

/-- 'laws.FnExactMapInsertAgain', WHERE WHAT IT READS IS OF BULK AT MOST 1048576: true; the input reads as it did. -/
def fnExactMapInsertAgainUptoRow : OpenClaim := { program := "ytaeeiociiojciaa", sum := "9d214cdcf71f85d17d0c31cdc4deb4bf7230f079b27bc52c11ad7cfd5e789a6b", func := "loop.example/lib-walkedmaps/laws.FnExactMapInsertAgain", spec := "fnExactMapInsertAgain", unfollowed := true, recurses := true, apart := false, narrowed := true }
def FnExactMapInsertAgainUptoSaid : Prop := fnExactMapInsertAgainUptoRow.holds Try.pinned (OpenSpec.upto fnExactMapInsertAgainSpec)

/-- 'laws.FnInsertCollects', WHERE WHAT IT READS IS OF BULK AT MOST 1048576: true; the input reads as it did. -/
def fnInsertCollectsUptoRow : OpenClaim := { program := "ytaeeiociiojciaa", sum := "9d214cdcf71f85d17d0c31cdc4deb4bf7230f079b27bc52c11ad7cfd5e789a6b", func := "loop.example/lib-walkedmaps/laws.FnInsertCollects", spec := "fnInsertCollects", unfollowed := true, recurses := true, apart := false, narrowed := true }
def FnInsertCollectsUptoSaid : Prop := fnInsertCollectsUptoRow.holds Try.pinned (OpenSpec.upto fnInsertCollectsSpec)

/-- 'laws.FnInsertTwice', WHERE WHAT IT READS IS OF BULK AT MOST 1048576: true; the input reads as it did. -/
def fnInsertTwiceUptoRow : OpenClaim := { program := "ytaeeiociiojciaa", sum := "9d214cdcf71f85d17d0c31cdc4deb4bf7230f079b27bc52c11ad7cfd5e789a6b", func := "loop.example/lib-walkedmaps/laws.FnInsertTwice", spec := "fnInsertTwice", unfollowed := true, recurses := true, apart := false, narrowed := true }
def FnInsertTwiceUptoSaid : Prop := fnInsertTwiceUptoRow.holds Try.pinned (OpenSpec.upto fnInsertTwiceSpec)

/-- 'laws.FnInsertAllIsMap', WHERE WHAT IT READS IS OF BULK AT MOST 1048576: true; the input reads as it did. -/
def fnInsertAllIsMapUptoRow : OpenClaim := { program := "ytaeeiociiojciaa", sum := "9d214cdcf71f85d17d0c31cdc4deb4bf7230f079b27bc52c11ad7cfd5e789a6b", func := "loop.example/lib-walkedmaps/laws.FnInsertAllIsMap", spec := "fnInsertAllIsMap", unfollowed := true, recurses := true, apart := false, narrowed := true }
def FnInsertAllIsMapUptoSaid : Prop := fnInsertAllIsMapUptoRow.holds Try.pinned (OpenSpec.upto fnInsertAllIsMapSpec)

end Rows
end Go.Proofs.Ytaeeiociiojciaa
