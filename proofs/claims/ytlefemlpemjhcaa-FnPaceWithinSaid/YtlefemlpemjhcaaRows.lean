/-
  No cell of these rows narrows 'for every input' (looked for: loops, veiled, ifaces, maps, wideKeys, modest, calm, conditions, laid).
  DERIVED. THE GIVEN ROWS OF THIS SEAT. 4 by the template 'for every input the law returns true; each argument reads behind the call as it read before'; 0 by the template 'total and deterministic' (their statements: YtlefemlpemjhcaaTotals.lean).
  GIVEN WITH THE SEED: the statements are not yours to turn. If you find one false, say at which input.
  Laid BY PROGRAM, IN A SANDBOX (cutbox-rows.mjs): the forced cells as the released guide's own fill.sh prints them over the translation ff18e2191e93acb8… (all of the seat's roots in one cut). By AI agents, Wed Nov 11 2026. No macro, syntax, notation, axiom, sorry.
-/
import Derived.Test.YtlefemlpemjhcaaChecked
import GoSem.Claim
import GoSem.ClaimJoined
import GoSem.ClaimMapViews
import Derived.JoinedTies
import Derived.KernelRfl
namespace Go.Proofs.Ytlefemlpemjhcaa
/- THE CELL 'sum', in the pinned program and in every row, IS THE sha256 OF THE DUMP (.gsa) THAT YtlefemlpemjhcaaProg.lean LOADS. Nothing in Lean hashes anything: it is a label: what it is worth is what the hold of that sum in a sandbox is worth. -/
noncomputable def Try.pinned : Pinned := { name := "ytlefemlpemjhcaa", sum := "ff18e2191e93acb8af60c9001df4adcf507766ad8df70c24182eee2d23f131f6", checked := Try.checked }
namespace Rows
def none {H : Type} : Left H := { results := [], args := [] }

/-- 'laws.FnPaceAfter': WHATEVER THE INPUT: true; the input reads as it did. -/
def fnPaceAfterSpec : ChangeSpec := { name := "fnPaceAfter", fn := fun _ => fun
  | [d1, d2] => { results := [.lit (.bool true)], args := [d1, d2] }
  | _ => none }
def fnPaceAfterRow : OpenClaim := { program := "ytlefemlpemjhcaa", sum := "ff18e2191e93acb8af60c9001df4adcf507766ad8df70c24182eee2d23f131f6", func := "pub-longboat/laws.FnPaceAfter", spec := "fnPaceAfter", unfollowed := true, recurses := true, apart := false }
def FnPaceAfterSaid : Prop := fnPaceAfterRow.holds Try.pinned (OpenSpec.ofChange fnPaceAfterSpec)

/-- ITS FALSE NEIGHBOUR: 'it returns false'. Refute it at one input. -/
def fnPaceAfterWrong : ChangeSpec := { name := "fnPaceAfter", fn := fun _ => fun
  | [d1, d2] => { results := [.lit (.bool false)], args := [d1, d2] }
  | _ => none }
def FnPaceAfterWrongFalsely : Prop := fnPaceAfterRow.holds Try.pinned (OpenSpec.ofChange fnPaceAfterWrong)

/-- 'laws.FnPaceDefault': WHATEVER THE INPUT: true; the input reads as it did. -/
def fnPaceDefaultSpec : ChangeSpec := { name := "fnPaceDefault", fn := fun _ => fun
  | [d1, d2] => { results := [.lit (.bool true)], args := [d1, d2] }
  | _ => none }
def fnPaceDefaultRow : OpenClaim := { program := "ytlefemlpemjhcaa", sum := "ff18e2191e93acb8af60c9001df4adcf507766ad8df70c24182eee2d23f131f6", func := "pub-longboat/laws.FnPaceDefault", spec := "fnPaceDefault", unfollowed := true, recurses := true, apart := false }
def FnPaceDefaultSaid : Prop := fnPaceDefaultRow.holds Try.pinned (OpenSpec.ofChange fnPaceDefaultSpec)

/-- ITS FALSE NEIGHBOUR: 'it returns false'. Refute it at one input. -/
def fnPaceDefaultWrong : ChangeSpec := { name := "fnPaceDefault", fn := fun _ => fun
  | [d1, d2] => { results := [.lit (.bool false)], args := [d1, d2] }
  | _ => none }
def FnPaceDefaultWrongFalsely : Prop := fnPaceDefaultRow.holds Try.pinned (OpenSpec.ofChange fnPaceDefaultWrong)

/-- 'laws.FnPaceZero': WHATEVER THE INPUT: true; the input reads as it did. -/
def fnPaceZeroSpec : ChangeSpec := { name := "fnPaceZero", fn := fun _ => fun
  | [d] => { results := [.lit (.bool true)], args := [d] }
  | _ => none }
def fnPaceZeroRow : OpenClaim := { program := "ytlefemlpemjhcaa", sum := "ff18e2191e93acb8af60c9001df4adcf507766ad8df70c24182eee2d23f131f6", func := "pub-longboat/laws.FnPaceZero", spec := "fnPaceZero", unfollowed := true, recurses := true, apart := false }
def FnPaceZeroSaid : Prop := fnPaceZeroRow.holds Try.pinned (OpenSpec.ofChange fnPaceZeroSpec)

/-- ITS FALSE NEIGHBOUR: 'it returns false'. Refute it at one input. -/
def fnPaceZeroWrong : ChangeSpec := { name := "fnPaceZero", fn := fun _ => fun
  | [d] => { results := [.lit (.bool false)], args := [d] }
  | _ => none }
def FnPaceZeroWrongFalsely : Prop := fnPaceZeroRow.holds Try.pinned (OpenSpec.ofChange fnPaceZeroWrong)

/-- 'laws.FnPaceWithin': WHATEVER THE INPUT: true; the input reads as it did. -/
def fnPaceWithinSpec : ChangeSpec := { name := "fnPaceWithin", fn := fun _ => fun
  | [d1, d2, d3] => { results := [.lit (.bool true)], args := [d1, d2, d3] }
  | _ => none }
def fnPaceWithinRow : OpenClaim := { program := "ytlefemlpemjhcaa", sum := "ff18e2191e93acb8af60c9001df4adcf507766ad8df70c24182eee2d23f131f6", func := "pub-longboat/laws.FnPaceWithin", spec := "fnPaceWithin", unfollowed := true, recurses := true, apart := false }
def FnPaceWithinSaid : Prop := fnPaceWithinRow.holds Try.pinned (OpenSpec.ofChange fnPaceWithinSpec)

/-- ITS FALSE NEIGHBOUR: 'it returns false'. Refute it at one input. -/
def fnPaceWithinWrong : ChangeSpec := { name := "fnPaceWithin", fn := fun _ => fun
  | [d1, d2, d3] => { results := [.lit (.bool false)], args := [d1, d2, d3] }
  | _ => none }
def FnPaceWithinWrongFalsely : Prop := fnPaceWithinRow.holds Try.pinned (OpenSpec.ofChange fnPaceWithinWrong)

/- THE SECOND FORM. 'bulk': how many values and letters a reading holds, each counted each time it is reached (what is shared counts as often as it is met; a slice's spare places count too). A statement '..UptoSaid' is the law's where the arguments, and the package variables that the reading takes, are together of bulk at most 1048576: NARROWER than '..Said'. Prove '..Said' where nothing that the law and all that it calls make is longer than what came in: it says more and counts as full. Else prove '..UptoSaid'. A law counts once. -/
mutual
def uptoBulk {H : Type} : DataW H → Nat
  | .lit (.string bytes) => bytes.length + 1
  | .lit _ => 1
  | .nil => 1
  | .ptr d => uptoBulk d + 1
  | .slice elems spare => uptoBulkAll elems + uptoBulkAll spare + 1
  | .agg parts => uptoBulkAll parts + 1
  | .iface _ d => uptoBulk d + 1
  | .map entries => uptoBulkEntries entries + 1
  | .held _ => 1
def uptoBulkAll {H : Type} : List (DataW H) → Nat
  | [] => 0
  | d :: r => uptoBulk d + uptoBulkAll r
def uptoBulkEntries {H : Type} : List (Lit × DataW H) → Nat
  | [] => 0
  | x :: r => uptoBulkEntry x + uptoBulkEntries r
def uptoBulkEntry {H : Type} : Lit × DataW H → Nat
  | (.string bytes, d) => bytes.length + uptoBulk d + 1
  | (_, d) => uptoBulk d + 1
 end
def uptoSmall : (H : Type) → List (DataW H) → Bool := fun _ ds => decide (uptoBulkAll ds ≤ 1048576)
def OpenSpec.upto (s : _root_.Go.ChangeSpec) : _root_.Go.OpenSpec := { _root_.Go.OpenSpec.ofChange s with cond := some uptoSmall }

/-- 'laws.FnPaceAfter', WHERE WHAT IT READS IS OF BULK AT MOST 1048576: true; the input reads as it did. -/
def fnPaceAfterUptoRow : OpenClaim := { program := "ytlefemlpemjhcaa", sum := "ff18e2191e93acb8af60c9001df4adcf507766ad8df70c24182eee2d23f131f6", func := "pub-longboat/laws.FnPaceAfter", spec := "fnPaceAfter", unfollowed := true, recurses := true, apart := false, narrowed := true }
def FnPaceAfterUptoSaid : Prop := fnPaceAfterUptoRow.holds Try.pinned (OpenSpec.upto fnPaceAfterSpec)

/-- 'laws.FnPaceDefault', WHERE WHAT IT READS IS OF BULK AT MOST 1048576: true; the input reads as it did. -/
def fnPaceDefaultUptoRow : OpenClaim := { program := "ytlefemlpemjhcaa", sum := "ff18e2191e93acb8af60c9001df4adcf507766ad8df70c24182eee2d23f131f6", func := "pub-longboat/laws.FnPaceDefault", spec := "fnPaceDefault", unfollowed := true, recurses := true, apart := false, narrowed := true }
def FnPaceDefaultUptoSaid : Prop := fnPaceDefaultUptoRow.holds Try.pinned (OpenSpec.upto fnPaceDefaultSpec)

/-- 'laws.FnPaceZero', WHERE WHAT IT READS IS OF BULK AT MOST 1048576: true; the input reads as it did. -/
def fnPaceZeroUptoRow : OpenClaim := { program := "ytlefemlpemjhcaa", sum := "ff18e2191e93acb8af60c9001df4adcf507766ad8df70c24182eee2d23f131f6", func := "pub-longboat/laws.FnPaceZero", spec := "fnPaceZero", unfollowed := true, recurses := true, apart := false, narrowed := true }
def FnPaceZeroUptoSaid : Prop := fnPaceZeroUptoRow.holds Try.pinned (OpenSpec.upto fnPaceZeroSpec)

/-- 'laws.FnPaceWithin', WHERE WHAT IT READS IS OF BULK AT MOST 1048576: true; the input reads as it did. -/
def fnPaceWithinUptoRow : OpenClaim := { program := "ytlefemlpemjhcaa", sum := "ff18e2191e93acb8af60c9001df4adcf507766ad8df70c24182eee2d23f131f6", func := "pub-longboat/laws.FnPaceWithin", spec := "fnPaceWithin", unfollowed := true, recurses := true, apart := false, narrowed := true }
def FnPaceWithinUptoSaid : Prop := fnPaceWithinUptoRow.holds Try.pinned (OpenSpec.upto fnPaceWithinSpec)

end Rows
end Go.Proofs.Ytlefemlpemjhcaa
