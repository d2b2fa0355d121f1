/-
  No cell of these rows narrows 'for every input' (looked for: loops, veiled, ifaces, maps, wideKeys, modest, calm, conditions, laid).
  DERIVED. THE GIVEN ROWS OF THIS SEAT. 9 by the template 'for every input the law returns true; each argument reads behind the call as it read before'; 0 by the template 'total and deterministic' (their statements: YtmfmpfcgllpflaaTotals.lean).
  GIVEN WITH THE SEED: the statements are not yours to turn. If you find one false, say at which input.
  Laid BY PROGRAM, IN A SANDBOX (cutbox-rows.mjs): the forced cells as the released guide's own fill.sh prints them over the translation 9c8fb134f9b6736a… (all of the seat's roots in one cut). By AI agents, Wed Nov 11 2026. No macro, syntax, notation, axiom, sorry.
-/
import Derived.Test.YtmfmpfcgllpflaaChecked
import GoSem.Claim
import GoSem.ClaimJoined
import GoSem.ClaimMapViews
import Derived.JoinedTies
import Derived.KernelRfl
namespace Go.Proofs.Ytmfmpfcgllpflaa
/- THE CELL 'sum', in the pinned program and in every row, IS THE sha256 OF THE DUMP (.gsa) THAT YtmfmpfcgllpflaaProg.lean LOADS. Nothing in Lean hashes anything: it is a label: what it is worth is what the hold of that sum in a sandbox is worth. -/
noncomputable def Try.pinned : Pinned := { name := "ytmfmpfcgllpflaa", sum := "9c8fb134f9b6736a682282c3d984c198c24d70f7151d31e0688eebb3956ecf1e", checked := Try.checked }
namespace Rows
def none {H : Type} : Left H := { results := [], args := [] }

/-- 'laws.FnExactConcat': WHATEVER THE INPUT: true; the input reads as it did. -/
def fnExactConcatSpec : ChangeSpec := { name := "fnExactConcat", fn := fun _ => fun
  | [d] => { results := [.lit (.bool true)], args := [d] }
  | _ => none }
def fnExactConcatRow : OpenClaim := { program := "ytmfmpfcgllpflaa", sum := "9c8fb134f9b6736a682282c3d984c198c24d70f7151d31e0688eebb3956ecf1e", func := "loop.example/lib-walkedmaps/laws.FnExactConcat", spec := "fnExactConcat", apart := false }
def FnExactConcatSaid : Prop := fnExactConcatRow.holds Try.pinned (OpenSpec.ofChange fnExactConcatSpec)

/-- ITS FALSE NEIGHBOUR: 'it returns false'. Refute it at one input. -/
def fnExactConcatWrong : ChangeSpec := { name := "fnExactConcat", fn := fun _ => fun
  | [d] => { results := [.lit (.bool false)], args := [d] }
  | _ => none }
def FnExactConcatWrongFalsely : Prop := fnExactConcatRow.holds Try.pinned (OpenSpec.ofChange fnExactConcatWrong)

/-- 'laws.FnExactWalkChunk': WHATEVER THE INPUT: true; the input reads as it did. -/
def fnExactWalkChunkSpec : ChangeSpec := { name := "fnExactWalkChunk", fn := fun _ => fun
  | [d1, d2, d3] => { results := [.lit (.bool true)], args := [d1, d2, d3] }
  | _ => none }
def fnExactWalkChunkRow : OpenClaim := { program := "ytmfmpfcgllpflaa", sum := "9c8fb134f9b6736a682282c3d984c198c24d70f7151d31e0688eebb3956ecf1e", func := "loop.example/lib-walkedmaps/laws.FnExactWalkChunk", spec := "fnExactWalkChunk", unfollowed := true, recurses := true, apart := false }
def FnExactWalkChunkSaid : Prop := fnExactWalkChunkRow.holds Try.pinned (OpenSpec.ofChange fnExactWalkChunkSpec)

/-- ITS FALSE NEIGHBOUR: 'it returns false'. Refute it at one input. -/
def fnExactWalkChunkWrong : ChangeSpec := { name := "fnExactWalkChunk", fn := fun _ => fun
  | [d1, d2, d3] => { results := [.lit (.bool false)], args := [d1, d2, d3] }
  | _ => none }
def FnExactWalkChunkWrongFalsely : Prop := fnExactWalkChunkRow.holds Try.pinned (OpenSpec.ofChange fnExactWalkChunkWrong)

/-- 'laws.FnAllIsValues': WHATEVER THE INPUT: true; the input reads as it did. -/
def fnAllIsValuesSpec : ChangeSpec := { name := "fnAllIsValues", fn := fun _ => fun
  | [d] => { results := [.lit (.bool true)], args := [d] }
  | _ => none }
def fnAllIsValuesRow : OpenClaim := { program := "ytmfmpfcgllpflaa", sum := "9c8fb134f9b6736a682282c3d984c198c24d70f7151d31e0688eebb3956ecf1e", func := "loop.example/lib-walkedmaps/laws.FnAllIsValues", spec := "fnAllIsValues", unfollowed := true, recurses := true, apart := false }
def FnAllIsValuesSaid : Prop := fnAllIsValuesRow.holds Try.pinned (OpenSpec.ofChange fnAllIsValuesSpec)

/-- ITS FALSE NEIGHBOUR: 'it returns false'. Refute it at one input. -/
def fnAllIsValuesWrong : ChangeSpec := { name := "fnAllIsValues", fn := fun _ => fun
  | [d] => { results := [.lit (.bool false)], args := [d] }
  | _ => none }
def FnAllIsValuesWrongFalsely : Prop := fnAllIsValuesRow.holds Try.pinned (OpenSpec.ofChange fnAllIsValuesWrong)

/-- 'laws.FnBackwardIsTurned': WHATEVER THE INPUT: true; the input reads as it did. -/
def fnBackwardIsTurnedSpec : ChangeSpec := { name := "fnBackwardIsTurned", fn := fun _ => fun
  | [d] => { results := [.lit (.bool true)], args := [d] }
  | _ => none }
def fnBackwardIsTurnedRow : OpenClaim := { program := "ytmfmpfcgllpflaa", sum := "9c8fb134f9b6736a682282c3d984c198c24d70f7151d31e0688eebb3956ecf1e", func := "loop.example/lib-walkedmaps/laws.FnBackwardIsTurned", spec := "fnBackwardIsTurned", unfollowed := true, recurses := true, apart := false }
def FnBackwardIsTurnedSaid : Prop := fnBackwardIsTurnedRow.holds Try.pinned (OpenSpec.ofChange fnBackwardIsTurnedSpec)

/-- ITS FALSE NEIGHBOUR: 'it returns false'. Refute it at one input. -/
def fnBackwardIsTurnedWrong : ChangeSpec := { name := "fnBackwardIsTurned", fn := fun _ => fun
  | [d] => { results := [.lit (.bool false)], args := [d] }
  | _ => none }
def FnBackwardIsTurnedWrongFalsely : Prop := fnBackwardIsTurnedRow.holds Try.pinned (OpenSpec.ofChange fnBackwardIsTurnedWrong)

/-- 'laws.FnConcatAppends': WHATEVER THE INPUT: true; the input reads as it did. -/
def fnConcatAppendsSpec : ChangeSpec := { name := "fnConcatAppends", fn := fun _ => fun
  | [d] => { results := [.lit (.bool true)], args := [d] }
  | _ => none }
def fnConcatAppendsRow : OpenClaim := { program := "ytmfmpfcgllpflaa", sum := "9c8fb134f9b6736a682282c3d984c198c24d70f7151d31e0688eebb3956ecf1e", func := "loop.example/lib-walkedmaps/laws.FnConcatAppends", spec := "fnConcatAppends", unfollowed := true, recurses := true, apart := false }
def FnConcatAppendsSaid : Prop := fnConcatAppendsRow.holds Try.pinned (OpenSpec.ofChange fnConcatAppendsSpec)

/-- ITS FALSE NEIGHBOUR: 'it returns false'. Refute it at one input. -/
def fnConcatAppendsWrong : ChangeSpec := { name := "fnConcatAppends", fn := fun _ => fun
  | [d] => { results := [.lit (.bool false)], args := [d] }
  | _ => none }
def FnConcatAppendsWrongFalsely : Prop := fnConcatAppendsRow.holds Try.pinned (OpenSpec.ofChange fnConcatAppendsWrong)

/-- 'laws.FnExactRepeat': WHATEVER THE INPUT: true; the input reads as it did. -/
def fnExactRepeatSpec : ChangeSpec := { name := "fnExactRepeat", fn := fun _ => fun
  | [d1, d2] => { results := [.lit (.bool true)], args := [d1, d2] }
  | _ => none }
def fnExactRepeatRow : OpenClaim := { program := "ytmfmpfcgllpflaa", sum := "9c8fb134f9b6736a682282c3d984c198c24d70f7151d31e0688eebb3956ecf1e", func := "loop.example/lib-walkedmaps/laws.FnExactRepeat", spec := "fnExactRepeat", unfollowed := true, recurses := true, apart := false }
def FnExactRepeatSaid : Prop := fnExactRepeatRow.holds Try.pinned (OpenSpec.ofChange fnExactRepeatSpec)

/-- ITS FALSE NEIGHBOUR: 'it returns false'. Refute it at one input. -/
def fnExactRepeatWrong : ChangeSpec := { name := "fnExactRepeat", fn := fun _ => fun
  | [d1, d2] => { results := [.lit (.bool false)], args := [d1, d2] }
  | _ => none }
def FnExactRepeatWrongFalsely : Prop := fnExactRepeatRow.holds Try.pinned (OpenSpec.ofChange fnExactRepeatWrong)

/-- 'laws.FnExactConcatChunks': WHATEVER THE INPUT: true; the input reads as it did. -/
def fnExactConcatChunksSpec : ChangeSpec := { name := "fnExactConcatChunks", fn := fun _ => fun
  | [d1, d2] => { results := [.lit (.bool true)], args := [d1, d2] }
  | _ => none }
def fnExactConcatChunksRow : OpenClaim := { program := "ytmfmpfcgllpflaa", sum := "9c8fb134f9b6736a682282c3d984c198c24d70f7151d31e0688eebb3956ecf1e", func := "loop.example/lib-walkedmaps/laws.FnExactConcatChunks", spec := "fnExactConcatChunks", unfollowed := true, recurses := true, apart := false }
def FnExactConcatChunksSaid : Prop := fnExactConcatChunksRow.holds Try.pinned (OpenSpec.ofChange fnExactConcatChunksSpec)

/-- ITS FALSE NEIGHBOUR: 'it returns false'. Refute it at one input. -/
def fnExactConcatChunksWrong : ChangeSpec := { name := "fnExactConcatChunks", fn := fun _ => fun
  | [d1, d2] => { results := [.lit (.bool false)], args := [d1, d2] }
  | _ => none }
def FnExactConcatChunksWrongFalsely : Prop := fnExactConcatChunksRow.holds Try.pinned (OpenSpec.ofChange fnExactConcatChunksWrong)

/-- 'laws.FnChunkSizes': WHATEVER THE INPUT: true; the input reads as it did. -/
def fnChunkSizesSpec : ChangeSpec := { name := "fnChunkSizes", fn := fun _ => fun
  | [d] => { results := [.lit (.bool true)], args := [d] }
  | _ => none }
def fnChunkSizesRow : OpenClaim := { program := "ytmfmpfcgllpflaa", sum := "9c8fb134f9b6736a682282c3d984c198c24d70f7151d31e0688eebb3956ecf1e", func := "loop.example/lib-walkedmaps/laws.FnChunkSizes", spec := "fnChunkSizes", unfollowed := true, recurses := true, apart := false }
def FnChunkSizesSaid : Prop := fnChunkSizesRow.holds Try.pinned (OpenSpec.ofChange fnChunkSizesSpec)

/-- ITS FALSE NEIGHBOUR: 'it returns false'. Refute it at one input. -/
def fnChunkSizesWrong : ChangeSpec := { name := "fnChunkSizes", fn := fun _ => fun
  | [d] => { results := [.lit (.bool false)], args := [d] }
  | _ => none }
def FnChunkSizesWrongFalsely : Prop := fnChunkSizesRow.holds Try.pinned (OpenSpec.ofChange fnChunkSizesWrong)

/-- 'laws.FnRepeatConcats': WHATEVER THE INPUT: true; the input reads as it did. -/
def fnRepeatConcatsSpec : ChangeSpec := { name := "fnRepeatConcats", fn := fun _ => fun
  | [d] => { results := [.lit (.bool true)], args := [d] }
  | _ => none }
def fnRepeatConcatsRow : OpenClaim := { program := "ytmfmpfcgllpflaa", sum := "9c8fb134f9b6736a682282c3d984c198c24d70f7151d31e0688eebb3956ecf1e", func := "loop.example/lib-walkedmaps/laws.FnRepeatConcats", spec := "fnRepeatConcats", unfollowed := true, recurses := true, apart := false }
def FnRepeatConcatsSaid : Prop := fnRepeatConcatsRow.holds Try.pinned (OpenSpec.ofChange fnRepeatConcatsSpec)

/-- ITS FALSE NEIGHBOUR: 'it returns false'. Refute it at one input. -/
def fnRepeatConcatsWrong : ChangeSpec := { name := "fnRepeatConcats", fn := fun _ => fun
  | [d] => { results := [.lit (.bool false)], args := [d] }
  | _ => none }
def FnRepeatConcatsWrongFalsely : Prop := fnRepeatConcatsRow.holds Try.pinned (OpenSpec.ofChange fnRepeatConcatsWrong)

/- THE SECOND FORM. 'bulk': how many values and letters a reading holds, each counted each time it is reached (what is shared counts as often as it is met; a slice's spare places count too). A statement '..UptoSaid' is the law's where the arguments, and the package variables that the reading takes, are together of bulk at most 1048576: NARROWER than '..Said'. Prove '..Said' where nothing that the law and all that it calls make is longer than what came in: it says more and counts as full. Else prove '..UptoSaid'. A law counts once. -/
mutual
def uptoBulk {H : Type} : DataW H → Nat
  | .lit (.string bytes) => bytes.length + 1
  | .lit _ => 1
  | .nil => 1
  | .ptr d => uptoBulk d + 1
  | .slice elems spare => uptoBulkAll elems + uptoBulkAll spare + 1
  | .agg parts => uptoBulkAll parts + 1
  | .iface _ d => uptoBulk d + 1
  | .map entries => uptoBulkEntries entries + 1
  | .held _ => 1
def uptoBulkAll {H : Type} : List (DataW H) → Nat
  | [] => 0
  | d :: r => uptoBulk d + uptoBulkAll r
def uptoBulkEntries {H : Type} : List (Lit × DataW H) → Nat
  | [] => 0
  | x :: r => uptoBulkEntry x + uptoBulkEntries r
def uptoBulkEntry {H : Type} : Lit × DataW H → Nat
  | (.string bytes, d) => bytes.length + uptoBulk d + 1
  | (_, d) => uptoBulk d + 1
 end
def uptoSmall : (H : Type) → List (DataW H) → Bool := fun _ ds => decide (uptoBulkAll ds ≤ 1048576)
def OpenSpec.upto (s : _root_.Go.ChangeSpec) : _root_.Go.OpenSpec := { _root_.Go.OpenSpec.ofChange s with cond := some uptoSmall }

/-- 'laws.FnExactConcat', WHERE WHAT IT READS IS OF BULK AT MOST 1048576: true; the input reads as it did. -/
def fnExactConcatUptoRow : OpenClaim := { program := "ytmfmpfcgllpflaa", sum := "9c8fb134f9b6736a682282c3d984c198c24d70f7151d31e0688eebb3956ecf1e", func := "loop.example/lib-walkedmaps/laws.FnExactConcat", spec := "fnExactConcat", apart := false, narrowed := true }
def FnExactConcatUptoSaid : Prop := fnExactConcatUptoRow.holds Try.pinned (OpenSpec.upto fnExactConcatSpec)

/-- 'laws.FnExactWalkChunk', WHERE WHAT IT READS IS OF BULK AT MOST 1048576: true; the input reads as it did. -/
def fnExactWalkChunkUptoRow : OpenClaim := { program := "ytmfmpfcgllpflaa", sum := "9c8fb134f9b6736a682282c3d984c198c24d70f7151d31e0688eebb3956ecf1e", func := "loop.example/lib-walkedmaps/laws.FnExactWalkChunk", spec := "fnExactWalkChunk", unfollowed := true, recurses := true, apart := false, narrowed := true }
def FnExactWalkChunkUptoSaid : Prop := fnExactWalkChunkUptoRow.holds Try.pinned (OpenSpec.upto fnExactWalkChunkSpec)

/-- 'laws.FnAllIsValues', WHERE WHAT IT READS IS OF BULK AT MOST 1048576: true; the input reads as it did. -/
def fnAllIsValuesUptoRow : OpenClaim := { program := "ytmfmpfcgllpflaa", sum := "9c8fb134f9b6736a682282c3d984c198c24d70f7151d31e0688eebb3956ecf1e", func := "loop.example/lib-walkedmaps/laws.FnAllIsValues", spec := "fnAllIsValues", unfollowed := true, recurses := true, apart := false, narrowed := true }
def FnAllIsValuesUptoSaid : Prop := fnAllIsValuesUptoRow.holds Try.pinned (OpenSpec.upto fnAllIsValuesSpec)

/-- 'laws.FnBackwardIsTurned', WHERE WHAT IT READS IS OF BULK AT MOST 1048576: true; the input reads as it did. -/
def fnBackwardIsTurnedUptoRow : OpenClaim := { program := "ytmfmpfcgllpflaa", sum := "9c8fb134f9b6736a682282c3d984c198c24d70f7151d31e0688eebb3956ecf1e", func := "loop.example/lib-walkedmaps/laws.FnBackwardIsTurned", spec := "fnBackwardIsTurned", unfollowed := true, recurses := true, apart := false, narrowed := true }
def FnBackwardIsTurnedUptoSaid : Prop := fnBackwardIsTurnedUptoRow.holds Try.pinned (OpenSpec.upto fnBackwardIsTurnedSpec)

/-- 'laws.FnConcatAppends', WHERE WHAT IT READS IS OF BULK AT MOST 1048576: true; the input reads as it did. -/
def fnConcatAppendsUptoRow : OpenClaim := { program := "ytmfmpfcgllpflaa", sum := "9c8fb134f9b6736a682282c3d984c198c24d70f7151d31e0688eebb3956ecf1e", func := "loop.example/lib-walkedmaps/laws.FnConcatAppends", spec := "fnConcatAppends", unfollowed := true, recurses := true, apart := false, narrowed := true }
def FnConcatAppendsUptoSaid : Prop := fnConcatAppendsUptoRow.holds Try.pinned (OpenSpec.upto fnConcatAppendsSpec)

/-- 'laws.FnExactRepeat', WHERE WHAT IT READS IS OF BULK AT MOST 1048576: true; the input reads as it did. -/
def fnExactRepeatUptoRow : OpenClaim := { program := "ytmfmpfcgllpflaa", sum := "9c8fb134f9b6736a682282c3d984c198c24d70f7151d31e0688eebb3956ecf1e", func := "loop.example/lib-walkedmaps/laws.FnExactRepeat", spec := "fnExactRepeat", unfollowed := true, recurses := true, apart := false, narrowed := true }
def FnExactRepeatUptoSaid : Prop := fnExactRepeatUptoRow.holds Try.pinned (OpenSpec.upto fnExactRepeatSpec)

/-- 'laws.FnExactConcatChunks', WHERE WHAT IT READS IS OF BULK AT MOST 1048576: true; the input reads as it did. -/
def fnExactConcatChunksUptoRow : OpenClaim := { program := "ytmfmpfcgllpflaa", sum := "9c8fb134f9b6736a682282c3d984c198c24d70f7151d31e0688eebb3956ecf1e", func := "loop.example/lib-walkedmaps/laws.FnExactConcatChunks", spec := "fnExactConcatChunks", unfollowed := true, recurses := true, apart := false, narrowed := true }
def FnExactConcatChunksUptoSaid : Prop := fnExactConcatChunksUptoRow.holds Try.pinned (OpenSpec.upto fnExactConcatChunksSpec)

/-- 'laws.FnChunkSizes', WHERE WHAT IT READS IS OF BULK AT MOST 1048576: true; the input reads as it did. -/
def fnChunkSizesUptoRow : OpenClaim := { program := "ytmfmpfcgllpflaa", sum := "9c8fb134f9b6736a682282c3d984c198c24d70f7151d31e0688eebb3956ecf1e", func := "loop.example/lib-walkedmaps/laws.FnChunkSizes", spec := "fnChunkSizes", unfollowed := true, recurses := true, apart := false, narrowed := true }
def FnChunkSizesUptoSaid : Prop := fnChunkSizesUptoRow.holds Try.pinned (OpenSpec.upto fnChunkSizesSpec)

/-- 'laws.FnRepeatConcats', WHERE WHAT IT READS IS OF BULK AT MOST 1048576: true; the input reads as it did. -/
def fnRepeatConcatsUptoRow : OpenClaim := { program := "ytmfmpfcgllpflaa", sum := "9c8fb134f9b6736a682282c3d984c198c24d70f7151d31e0688eebb3956ecf1e", func := "loop.example/lib-walkedmaps/laws.FnRepeatConcats", spec := "fnRepeatConcats", unfollowed := true, recurses := true, apart := false, narrowed := true }
def FnRepeatConcatsUptoSaid : Prop := fnRepeatConcatsUptoRow.holds Try.pinned (OpenSpec.upto fnRepeatConcatsSpec)

end Rows
end Go.Proofs.Ytmfmpfcgllpflaa
