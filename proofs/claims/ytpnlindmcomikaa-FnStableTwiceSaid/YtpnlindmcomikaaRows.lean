/-
  No cell of these rows narrows 'for every input' (looked for: loops, veiled, ifaces, maps, wideKeys, modest, calm, conditions, laid).
  DERIVED. THE GIVEN ROWS OF THIS SEAT. 5 by the template 'for every input the law returns true; each argument reads behind the call as it read before'; 0 by the template 'total and deterministic' (their statements: YtpnlindmcomikaaTotals.lean).
  GIVEN WITH THE SEED: the statements are not yours to turn. If you find one false, say at which input.
  Laid BY PROGRAM, IN A SANDBOX (cutbox-rows.mjs): the forced cells as the released guide's own fill.sh prints them over the translation af671f0ad12912d4… (all of the seat's roots in one cut). By AI agents, Wed Nov 11 2026. No macro, syntax, notation, axiom, sorry.
-/
import Derived.Test.YtpnlindmcomikaaChecked
import GoSem.Claim
import GoSem.ClaimJoined
import GoSem.ClaimMapViews
import Derived.JoinedTies
import Derived.KernelRfl
namespace Go.Proofs.Ytpnlindmcomikaa
/- THE CELL 'sum', in the pinned program and in every row, IS THE sha256 OF THE DUMP (.gsa) THAT YtpnlindmcomikaaProg.lean LOADS. Nothing in Lean hashes anything: it is a label: what it is worth is what the hold of that sum in a sandbox is worth. -/
noncomputable def Try.pinned : Pinned := { name := "ytpnlindmcomikaa", sum := "af671f0ad12912d4fadd257f2a24d64d8dfaca21c413ea6e3d40489f835e1fed", checked := Try.checked }
namespace Rows
def none {H : Type} : Left H := { results := [], args := [] }

/-- 'laws.FnStableIsSortedFunc': WHATEVER THE INPUT: true; the input reads as it did. -/
def fnStableIsSortedFuncSpec : ChangeSpec := { name := "fnStableIsSortedFunc", fn := fun _ => fun
  | [d] => { results := [.lit (.bool true)], args := [d] }
  | _ => none }
def fnStableIsSortedFuncRow : OpenClaim := { program := "ytpnlindmcomikaa", sum := "af671f0ad12912d4fadd257f2a24d64d8dfaca21c413ea6e3d40489f835e1fed", func := "loop.example/lib-walkedmaps/laws.FnStableIsSortedFunc", spec := "fnStableIsSortedFunc", unfollowed := true, recurses := true, apart := false }
def FnStableIsSortedFuncSaid : Prop := fnStableIsSortedFuncRow.holds Try.pinned (OpenSpec.ofChange fnStableIsSortedFuncSpec)

/-- ITS FALSE NEIGHBOUR: 'it returns false'. Refute it at one input. -/
def fnStableIsSortedFuncWrong : ChangeSpec := { name := "fnStableIsSortedFunc", fn := fun _ => fun
  | [d] => { results := [.lit (.bool false)], args := [d] }
  | _ => none }
def FnStableIsSortedFuncWrongFalsely : Prop := fnStableIsSortedFuncRow.holds Try.pinned (OpenSpec.ofChange fnStableIsSortedFuncWrong)

/-- 'laws.FnExactSortedStableFunc': WHATEVER THE INPUT: true; the input reads as it did. -/
def fnExactSortedStableFuncSpec : ChangeSpec := { name := "fnExactSortedStableFunc", fn := fun _ => fun
  | [d1, d2] => { results := [.lit (.bool true)], args := [d1, d2] }
  | _ => none }
def fnExactSortedStableFuncRow : OpenClaim := { program := "ytpnlindmcomikaa", sum := "af671f0ad12912d4fadd257f2a24d64d8dfaca21c413ea6e3d40489f835e1fed", func := "loop.example/lib-walkedmaps/laws.FnExactSortedStableFunc", spec := "fnExactSortedStableFunc", unfollowed := true, recurses := true, apart := false }
def FnExactSortedStableFuncSaid : Prop := fnExactSortedStableFuncRow.holds Try.pinned (OpenSpec.ofChange fnExactSortedStableFuncSpec)

/-- ITS FALSE NEIGHBOUR: 'it returns false'. Refute it at one input. -/
def fnExactSortedStableFuncWrong : ChangeSpec := { name := "fnExactSortedStableFunc", fn := fun _ => fun
  | [d1, d2] => { results := [.lit (.bool false)], args := [d1, d2] }
  | _ => none }
def FnExactSortedStableFuncWrongFalsely : Prop := fnExactSortedStableFuncRow.holds Try.pinned (OpenSpec.ofChange fnExactSortedStableFuncWrong)

/-- 'laws.FnStableTwice': WHATEVER THE INPUT: true; the input reads as it did. -/
def fnStableTwiceSpec : ChangeSpec := { name := "fnStableTwice", fn := fun _ => fun
  | [d] => { results := [.lit (.bool true)], args := [d] }
  | _ => none }
def fnStableTwiceRow : OpenClaim := { program := "ytpnlindmcomikaa", sum := "af671f0ad12912d4fadd257f2a24d64d8dfaca21c413ea6e3d40489f835e1fed", func := "loop.example/lib-walkedmaps/laws.FnStableTwice", spec := "fnStableTwice", unfollowed := true, recurses := true, apart := false }
def FnStableTwiceSaid : Prop := fnStableTwiceRow.holds Try.pinned (OpenSpec.ofChange fnStableTwiceSpec)

/-- ITS FALSE NEIGHBOUR: 'it returns false'. Refute it at one input. -/
def fnStableTwiceWrong : ChangeSpec := { name := "fnStableTwice", fn := fun _ => fun
  | [d] => { results := [.lit (.bool false)], args := [d] }
  | _ => none }
def FnStableTwiceWrongFalsely : Prop := fnStableTwiceRow.holds Try.pinned (OpenSpec.ofChange fnStableTwiceWrong)

/-- 'laws.FnExactSortedFunc': WHATEVER THE INPUT: true; the input reads as it did. -/
def fnExactSortedFuncSpec : ChangeSpec := { name := "fnExactSortedFunc", fn := fun _ => fun
  | [d1, d2] => { results := [.lit (.bool true)], args := [d1, d2] }
  | _ => none }
def fnExactSortedFuncRow : OpenClaim := { program := "ytpnlindmcomikaa", sum := "af671f0ad12912d4fadd257f2a24d64d8dfaca21c413ea6e3d40489f835e1fed", func := "loop.example/lib-walkedmaps/laws.FnExactSortedFunc", spec := "fnExactSortedFunc", unfollowed := true, recurses := true, apart := false }
def FnExactSortedFuncSaid : Prop := fnExactSortedFuncRow.holds Try.pinned (OpenSpec.ofChange fnExactSortedFuncSpec)

/-- ITS FALSE NEIGHBOUR: 'it returns false'. Refute it at one input. -/
def fnExactSortedFuncWrong : ChangeSpec := { name := "fnExactSortedFunc", fn := fun _ => fun
  | [d1, d2] => { results := [.lit (.bool false)], args := [d1, d2] }
  | _ => none }
def FnExactSortedFuncWrongFalsely : Prop := fnExactSortedFuncRow.holds Try.pinned (OpenSpec.ofChange fnExactSortedFuncWrong)

/-- 'laws.FnExactSortedFuncKeys': WHATEVER THE INPUT: true; the input reads as it did. -/
def fnExactSortedFuncKeysSpec : ChangeSpec := { name := "fnExactSortedFuncKeys", fn := fun _ => fun
  | [d1, d2] => { results := [.lit (.bool true)], args := [d1, d2] }
  | _ => none }
def fnExactSortedFuncKeysRow : OpenClaim := { program := "ytpnlindmcomikaa", sum := "af671f0ad12912d4fadd257f2a24d64d8dfaca21c413ea6e3d40489f835e1fed", func := "loop.example/lib-walkedmaps/laws.FnExactSortedFuncKeys", spec := "fnExactSortedFuncKeys", unfollowed := true, recurses := true, apart := false }
def FnExactSortedFuncKeysSaid : Prop := fnExactSortedFuncKeysRow.holds Try.pinned (OpenSpec.ofChange fnExactSortedFuncKeysSpec)

/-- ITS FALSE NEIGHBOUR: 'it returns false'. Refute it at one input. -/
def fnExactSortedFuncKeysWrong : ChangeSpec := { name := "fnExactSortedFuncKeys", fn := fun _ => fun
  | [d1, d2] => { results := [.lit (.bool false)], args := [d1, d2] }
  | _ => none }
def FnExactSortedFuncKeysWrongFalsely : Prop := fnExactSortedFuncKeysRow.holds Try.pinned (OpenSpec.ofChange fnExactSortedFuncKeysWrong)

/- THE SECOND FORM. 'bulk': how many values and letters a reading holds, each counted each time it is reached (what is shared counts as often as it is met; a slice's spare places count too). A statement '..UptoSaid' is the law's where the arguments, and the package variables that the reading takes, are together of bulk at most 1048576: NARROWER than '..Said'. Prove '..Said' where nothing that the law and all that it calls make is longer than what came in: it says more and counts as full. Else prove '..UptoSaid'. A law counts once. -/
mutual
def uptoBulk {H : Type} : DataW H → Nat
  | .lit (.string bytes) => bytes.length + 1
  | .lit _ => 1
  | .nil => 1
  | .ptr d => uptoBulk d + 1
  | .slice elems spare => uptoBulkAll elems + uptoBulkAll spare + 1
  | .agg parts => uptoBulkAll parts + 1
  | .iface _ d => uptoBulk d + 1
  | .map entries => uptoBulkEntries entries + 1
  | .held _ => 1
def uptoBulkAll {H : Type} : List (DataW H) → Nat
  | [] => 0
  | d :: r => uptoBulk d + uptoBulkAll r
def uptoBulkEntries {H : Type} : List (Lit × DataW H) → Nat
  | [] => 0
  | x :: r => uptoBulkEntry x + uptoBulkEntries r
def uptoBulkEntry {H : Type} : Lit × DataW H → Nat
  | (.string bytes, d) => bytes.length + uptoBulk d + 1
  | (_, d) => uptoBulk d + 1
 end
def uptoSmall : (H : Type) → List (DataW H) → Bool := fun _ ds => decide (uptoBulkAll ds ≤ 1048576)
def OpenSpec.upto (s : _root_.Go.ChangeSpec) : _root_.Go.OpenSpec := { _root_.Go.OpenSpec.ofChange s with cond := some uptoSmall }

/-- 'laws.FnStableIsSortedFunc', WHERE WHAT IT READS IS OF BULK AT MOST 1048576: true; the input reads as it did. -/
def fnStableIsSortedFuncUptoRow : OpenClaim := { program := "ytpnlindmcomikaa", sum := "af671f0ad12912d4fadd257f2a24d64d8dfaca21c413ea6e3d40489f835e1fed", func := "loop.example/lib-walkedmaps/laws.FnStableIsSortedFunc", spec := "fnStableIsSortedFunc", unfollowed := true, recurses := true, apart := false, narrowed := true }
def FnStableIsSortedFuncUptoSaid : Prop := fnStableIsSortedFuncUptoRow.holds Try.pinned (OpenSpec.upto fnStableIsSortedFuncSpec)

/-- 'laws.FnExactSortedStableFunc', WHERE WHAT IT READS IS OF BULK AT MOST 1048576: true; the input reads as it did. -/
def fnExactSortedStableFuncUptoRow : OpenClaim := { program := "ytpnlindmcomikaa", sum := "af671f0ad12912d4fadd257f2a24d64d8dfaca21c413ea6e3d40489f835e1fed", func := "loop.example/lib-walkedmaps/laws.FnExactSortedStableFunc", spec := "fnExactSortedStableFunc", unfollowed := true, recurses := true, apart := false, narrowed := true }
def FnExactSortedStableFuncUptoSaid : Prop := fnExactSortedStableFuncUptoRow.holds Try.pinned (OpenSpec.upto fnExactSortedStableFuncSpec)

/-- 'laws.FnStableTwice', WHERE WHAT IT READS IS OF BULK AT MOST 1048576: true; the input reads as it did. -/
def fnStableTwiceUptoRow : OpenClaim := { program := "ytpnlindmcomikaa", sum := "af671f0ad12912d4fadd257f2a24d64d8dfaca21c413ea6e3d40489f835e1fed", func := "loop.example/lib-walkedmaps/laws.FnStableTwice", spec := "fnStableTwice", unfollowed := true, recurses := true, apart := false, narrowed := true }
def FnStableTwiceUptoSaid : Prop := fnStableTwiceUptoRow.holds Try.pinned (OpenSpec.upto fnStableTwiceSpec)

/-- 'laws.FnExactSortedFunc', WHERE WHAT IT READS IS OF BULK AT MOST 1048576: true; the input reads as it did. -/
def fnExactSortedFuncUptoRow : OpenClaim := { program := "ytpnlindmcomikaa", sum := "af671f0ad12912d4fadd257f2a24d64d8dfaca21c413ea6e3d40489f835e1fed", func := "loop.example/lib-walkedmaps/laws.FnExactSortedFunc", spec := "fnExactSortedFunc", unfollowed := true, recurses := true, apart := false, narrowed := true }
def FnExactSortedFuncUptoSaid : Prop := fnExactSortedFuncUptoRow.holds Try.pinned (OpenSpec.upto fnExactSortedFuncSpec)

/-- 'laws.FnExactSortedFuncKeys', WHERE WHAT IT READS IS OF BULK AT MOST 1048576: true; the input reads as it did. -/
def fnExactSortedFuncKeysUptoRow : OpenClaim := { program := "ytpnlindmcomikaa", sum := "af671f0ad12912d4fadd257f2a24d64d8dfaca21c413ea6e3d40489f835e1fed", func := "loop.example/lib-walkedmaps/laws.FnExactSortedFuncKeys", spec := "fnExactSortedFuncKeys", unfollowed := true, recurses := true, apart := false, narrowed := true }
def FnExactSortedFuncKeysUptoSaid : Prop := fnExactSortedFuncKeysUptoRow.holds Try.pinned (OpenSpec.upto fnExactSortedFuncKeysSpec)

end Rows
end Go.Proofs.Ytpnlindmcomikaa
