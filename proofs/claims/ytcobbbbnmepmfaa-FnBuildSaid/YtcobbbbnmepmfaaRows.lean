/-
  No cell of these rows narrows 'for every input' (looked for: loops, veiled, ifaces, maps, wideKeys, modest, calm, conditions, laid).
  DERIVED. THE GIVEN ROWS OF THIS SEAT. 5 by the template 'for every input the law returns true; each argument reads behind the call as it read before'; 0 by the template 'total and deterministic' (their statements: YtcobbbbnmepmfaaTotals.lean).
  GIVEN WITH THE SEED: the statements are not yours to turn. If you find one false, say at which input.
  Laid BY PROGRAM, IN A SANDBOX (cutbox-rows.mjs): the forced cells as the released guide's own fill.sh prints them over the translation 561106027bba5712… (all of the seat's roots in one cut). By AI agents, Wed Nov 11 2026. No macro, syntax, notation, axiom, sorry.
-/
import Derived.Test.YtcobbbbnmepmfaaChecked
import GoSem.Claim
import GoSem.ClaimJoined
import GoSem.ClaimMapViews
import Derived.JoinedTies
import Derived.KernelRfl
namespace Go.Proofs.Ytcobbbbnmepmfaa
/- THE CELL 'sum', in the pinned program and in every row, IS THE sha256 OF THE DUMP (.gsa) THAT YtcobbbbnmepmfaaProg.lean LOADS. Nothing in Lean hashes anything: it is a label: what it is worth is what the hold of that sum in a sandbox is worth. -/
noncomputable def Try.pinned : Pinned := { name := "ytcobbbbnmepmfaa", sum := "561106027bba57126421332fc8b0aa765fdff9dfdcd663d89a09ec3f7c78286d", checked := Try.checked }
namespace Rows
def none {H : Type} : Left H := { results := [], args := [] }

/-- 'laws.FnBuild': WHATEVER THE INPUT: true; the input reads as it did. -/
def fnBuildSpec : ChangeSpec := { name := "fnBuild", fn := fun _ => fun
  | [d] => { results := [.lit (.bool true)], args := [d] }
  | _ => none }
def fnBuildRow : OpenClaim := { program := "ytcobbbbnmepmfaa", sum := "561106027bba57126421332fc8b0aa765fdff9dfdcd663d89a09ec3f7c78286d", func := "loop.example/pub-g03064/laws.FnBuild", spec := "fnBuild", unfollowed := true, recurses := true, apart := false }
def FnBuildSaid : Prop := fnBuildRow.holds Try.pinned (OpenSpec.ofChange fnBuildSpec)

/-- ITS FALSE NEIGHBOUR: 'it returns false'. Refute it at one input. -/
def fnBuildWrong : ChangeSpec := { name := "fnBuild", fn := fun _ => fun
  | [d] => { results := [.lit (.bool false)], args := [d] }
  | _ => none }
def FnBuildWrongFalsely : Prop := fnBuildRow.holds Try.pinned (OpenSpec.ofChange fnBuildWrong)

/-- 'laws.FnOnly': WHATEVER THE INPUT: true; the input reads as it did. -/
def fnOnlySpec : ChangeSpec := { name := "fnOnly", fn := fun _ => fun
  | [d1, d2] => { results := [.lit (.bool true)], args := [d1, d2] }
  | _ => none }
def fnOnlyRow : OpenClaim := { program := "ytcobbbbnmepmfaa", sum := "561106027bba57126421332fc8b0aa765fdff9dfdcd663d89a09ec3f7c78286d", func := "loop.example/pub-g03064/laws.FnOnly", spec := "fnOnly", unfollowed := true, recurses := true, apart := false }
def FnOnlySaid : Prop := fnOnlyRow.holds Try.pinned (OpenSpec.ofChange fnOnlySpec)

/-- ITS FALSE NEIGHBOUR: 'it returns false'. Refute it at one input. -/
def fnOnlyWrong : ChangeSpec := { name := "fnOnly", fn := fun _ => fun
  | [d1, d2] => { results := [.lit (.bool false)], args := [d1, d2] }
  | _ => none }
def FnOnlyWrongFalsely : Prop := fnOnlyRow.holds Try.pinned (OpenSpec.ofChange fnOnlyWrong)

/-- 'laws.FnFind': WHATEVER THE INPUT: true; the input reads as it did. -/
def fnFindSpec : ChangeSpec := { name := "fnFind", fn := fun _ => fun
  | [d1, d2] => { results := [.lit (.bool true)], args := [d1, d2] }
  | _ => none }
def fnFindRow : OpenClaim := { program := "ytcobbbbnmepmfaa", sum := "561106027bba57126421332fc8b0aa765fdff9dfdcd663d89a09ec3f7c78286d", func := "loop.example/pub-g03064/laws.FnFind", spec := "fnFind", unfollowed := true, recurses := true, apart := false }
def FnFindSaid : Prop := fnFindRow.holds Try.pinned (OpenSpec.ofChange fnFindSpec)

/-- ITS FALSE NEIGHBOUR: 'it returns false'. Refute it at one input. -/
def fnFindWrong : ChangeSpec := { name := "fnFind", fn := fun _ => fun
  | [d1, d2] => { results := [.lit (.bool false)], args := [d1, d2] }
  | _ => none }
def FnFindWrongFalsely : Prop := fnFindRow.holds Try.pinned (OpenSpec.ofChange fnFindWrong)

/-- 'laws.FnSlash': WHATEVER THE INPUT: true; the input reads as it did. -/
def fnSlashSpec : ChangeSpec := { name := "fnSlash", fn := fun _ => fun
  | [d1, d2] => { results := [.lit (.bool true)], args := [d1, d2] }
  | _ => none }
def fnSlashRow : OpenClaim := { program := "ytcobbbbnmepmfaa", sum := "561106027bba57126421332fc8b0aa765fdff9dfdcd663d89a09ec3f7c78286d", func := "loop.example/pub-g03064/laws.FnSlash", spec := "fnSlash", unfollowed := true, recurses := true, apart := false }
def FnSlashSaid : Prop := fnSlashRow.holds Try.pinned (OpenSpec.ofChange fnSlashSpec)

/-- ITS FALSE NEIGHBOUR: 'it returns false'. Refute it at one input. -/
def fnSlashWrong : ChangeSpec := { name := "fnSlash", fn := fun _ => fun
  | [d1, d2] => { results := [.lit (.bool false)], args := [d1, d2] }
  | _ => none }
def FnSlashWrongFalsely : Prop := fnSlashRow.holds Try.pinned (OpenSpec.ofChange fnSlashWrong)

/-- 'laws.FnName': WHATEVER THE INPUT: true; the input reads as it did. -/
def fnNameSpec : ChangeSpec := { name := "fnName", fn := fun _ => fun
  | [d1, d2, d3] => { results := [.lit (.bool true)], args := [d1, d2, d3] }
  | _ => none }
def fnNameRow : OpenClaim := { program := "ytcobbbbnmepmfaa", sum := "561106027bba57126421332fc8b0aa765fdff9dfdcd663d89a09ec3f7c78286d", func := "loop.example/pub-g03064/laws.FnName", spec := "fnName", unfollowed := true, recurses := true, apart := false }
def FnNameSaid : Prop := fnNameRow.holds Try.pinned (OpenSpec.ofChange fnNameSpec)

/-- ITS FALSE NEIGHBOUR: 'it returns false'. Refute it at one input. -/
def fnNameWrong : ChangeSpec := { name := "fnName", fn := fun _ => fun
  | [d1, d2, d3] => { results := [.lit (.bool false)], args := [d1, d2, d3] }
  | _ => none }
def FnNameWrongFalsely : Prop := fnNameRow.holds Try.pinned (OpenSpec.ofChange fnNameWrong)

/- THE SECOND FORM. 'bulk': how many values and letters a reading holds, each counted each time it is reached (what is shared counts as often as it is met; a slice's spare places count too). A statement '..UptoSaid' is the law's where the arguments, and the package variables that the reading takes, are together of bulk at most 1048576: NARROWER than '..Said'. Prove '..Said' where nothing that the law and all that it calls make is longer than what came in: it says more and counts as full. Else prove '..UptoSaid'. A law counts once. -/
mutual
def uptoBulk {H : Type} : DataW H → Nat
  | .lit (.string bytes) => bytes.length + 1
  | .lit _ => 1
  | .nil => 1
  | .ptr d => uptoBulk d + 1
  | .slice elems spare => uptoBulkAll elems + uptoBulkAll spare + 1
  | .agg parts => uptoBulkAll parts + 1
  | .iface _ d => uptoBulk d + 1
  | .map entries => uptoBulkEntries entries + 1
  | .held _ => 1
def uptoBulkAll {H : Type} : List (DataW H) → Nat
  | [] => 0
  | d :: r => uptoBulk d + uptoBulkAll r
def uptoBulkEntries {H : Type} : List (Lit × DataW H) → Nat
  | [] => 0
  | x :: r => uptoBulkEntry x + uptoBulkEntries r
def uptoBulkEntry {H : Type} : Lit × DataW H → Nat
  | (.string bytes, d) => bytes.length + uptoBulk d + 1
  | (_, d) => uptoBulk d + 1
 end
def uptoSmall : (H : Type) → List (DataW H) → Bool := fun _ ds => decide (uptoBulkAll ds ≤ 1048576)
def OpenSpec.upto (s : _root_.Go.ChangeSpec) : _root_.Go.OpenSpec := { _root_.Go.OpenSpec.ofChange s with cond := some uptoSmall }

/-- 'laws.FnBuild', WHERE WHAT IT READS IS OF BULK AT MOST 1048576: true; the input reads as it did. -/
def fnBuildUptoRow : OpenClaim := { program := "ytcobbbbnmepmfaa", sum := "561106027bba57126421332fc8b0aa765fdff9dfdcd663d89a09ec3f7c78286d", func := "loop.example/pub-g03064/laws.FnBuild", spec := "fnBuild", unfollowed := true, recurses := true, apart := false, narrowed := true }
def FnBuildUptoSaid : Prop := fnBuildUptoRow.holds Try.pinned (OpenSpec.upto fnBuildSpec)

/-- 'laws.FnOnly', WHERE WHAT IT READS IS OF BULK AT MOST 1048576: true; the input reads as it did. -/
def fnOnlyUptoRow : OpenClaim := { program := "ytcobbbbnmepmfaa", sum := "561106027bba57126421332fc8b0aa765fdff9dfdcd663d89a09ec3f7c78286d", func := "loop.example/pub-g03064/laws.FnOnly", spec := "fnOnly", unfollowed := true, recurses := true, apart := false, narrowed := true }
def FnOnlyUptoSaid : Prop := fnOnlyUptoRow.holds Try.pinned (OpenSpec.upto fnOnlySpec)

/-- 'laws.FnFind', WHERE WHAT IT READS IS OF BULK AT MOST 1048576: true; the input reads as it did. -/
def fnFindUptoRow : OpenClaim := { program := "ytcobbbbnmepmfaa", sum := "561106027bba57126421332fc8b0aa765fdff9dfdcd663d89a09ec3f7c78286d", func := "loop.example/pub-g03064/laws.FnFind", spec := "fnFind", unfollowed := true, recurses := true, apart := false, narrowed := true }
def FnFindUptoSaid : Prop := fnFindUptoRow.holds Try.pinned (OpenSpec.upto fnFindSpec)

/-- 'laws.FnSlash', WHERE WHAT IT READS IS OF BULK AT MOST 1048576: true; the input reads as it did. -/
def fnSlashUptoRow : OpenClaim := { program := "ytcobbbbnmepmfaa", sum := "561106027bba57126421332fc8b0aa765fdff9dfdcd663d89a09ec3f7c78286d", func := "loop.example/pub-g03064/laws.FnSlash", spec := "fnSlash", unfollowed := true, recurses := true, apart := false, narrowed := true }
def FnSlashUptoSaid : Prop := fnSlashUptoRow.holds Try.pinned (OpenSpec.upto fnSlashSpec)

/-- 'laws.FnName', WHERE WHAT IT READS IS OF BULK AT MOST 1048576: true; the input reads as it did. -/
def fnNameUptoRow : OpenClaim := { program := "ytcobbbbnmepmfaa", sum := "561106027bba57126421332fc8b0aa765fdff9dfdcd663d89a09ec3f7c78286d", func := "loop.example/pub-g03064/laws.FnName", spec := "fnName", unfollowed := true, recurses := true, apart := false, narrowed := true }
def FnNameUptoSaid : Prop := fnNameUptoRow.holds Try.pinned (OpenSpec.upto fnNameSpec)

end Rows
end Go.Proofs.Ytcobbbbnmepmfaa
