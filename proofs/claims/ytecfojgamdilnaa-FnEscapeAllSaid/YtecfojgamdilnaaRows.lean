/-
  No cell of these rows narrows 'for every input' (looked for: loops, veiled, ifaces, maps, wideKeys, modest, calm, conditions, laid).
  DERIVED. THE GIVEN ROWS OF THIS SEAT. 7 by the template 'for every input the law returns true; each argument reads behind the call as it read before'; 0 by the template 'total and deterministic' (their statements: YtecfojgamdilnaaTotals.lean).
  GIVEN WITH THE SEED: the statements are not yours to turn. If you find one false, say at which input.
  Laid BY PROGRAM, IN A SANDBOX (cutbox-rows.mjs): the forced cells as the released guide's own fill.sh prints them over the translation 8a6eee4fcc3e7765… (all of the seat's roots in one cut). By AI agents, Wed Nov 11 2026. No macro, syntax, notation, axiom, sorry.
-/
import Derived.Test.YtecfojgamdilnaaChecked
import GoSem.Claim
import GoSem.ClaimJoined
import GoSem.ClaimMapViews
import Derived.JoinedTies
import Derived.KernelRfl
namespace Go.Proofs.Ytecfojgamdilnaa
/- THE CELL 'sum', in the pinned program and in every row, IS THE sha256 OF THE DUMP (.gsa) THAT YtecfojgamdilnaaProg.lean LOADS. Nothing in Lean hashes anything: it is a label: what it is worth is what the hold of that sum in a sandbox is worth. -/
noncomputable def Try.pinned : Pinned := { name := "ytecfojgamdilnaa", sum := "8a6eee4fcc3e77651586d5904cafe6539c82480f049e9cd93f91785a801adf29", checked := Try.checked }
namespace Rows
def none {H : Type} : Left H := { results := [], args := [] }

/-- 'laws.FnMaskHas': WHATEVER THE INPUT: true; the input reads as it did. -/
def fnMaskHasSpec : ChangeSpec := { name := "fnMaskHas", fn := fun _ => fun
  | [d1, d2] => { results := [.lit (.bool true)], args := [d1, d2] }
  | _ => none }
def fnMaskHasRow : OpenClaim := { program := "ytecfojgamdilnaa", sum := "8a6eee4fcc3e77651586d5904cafe6539c82480f049e9cd93f91785a801adf29", func := "pub-longboat/laws.FnMaskHas", spec := "fnMaskHas", apart := false }
def FnMaskHasSaid : Prop := fnMaskHasRow.holds Try.pinned (OpenSpec.ofChange fnMaskHasSpec)

/-- ITS FALSE NEIGHBOUR: 'it returns false'. Refute it at one input. -/
def fnMaskHasWrong : ChangeSpec := { name := "fnMaskHas", fn := fun _ => fun
  | [d1, d2] => { results := [.lit (.bool false)], args := [d1, d2] }
  | _ => none }
def FnMaskHasWrongFalsely : Prop := fnMaskHasRow.holds Try.pinned (OpenSpec.ofChange fnMaskHasWrong)

/-- 'laws.FnBucketJoin': WHATEVER THE INPUT: true; the input reads as it did. -/
def fnBucketJoinSpec : ChangeSpec := { name := "fnBucketJoin", fn := fun _ => fun
  | [d1, d2] => { results := [.lit (.bool true)], args := [d1, d2] }
  | _ => none }
def fnBucketJoinRow : OpenClaim := { program := "ytecfojgamdilnaa", sum := "8a6eee4fcc3e77651586d5904cafe6539c82480f049e9cd93f91785a801adf29", func := "pub-longboat/laws.FnBucketJoin", spec := "fnBucketJoin", apart := false }
def FnBucketJoinSaid : Prop := fnBucketJoinRow.holds Try.pinned (OpenSpec.ofChange fnBucketJoinSpec)

/-- ITS FALSE NEIGHBOUR: 'it returns false'. Refute it at one input. -/
def fnBucketJoinWrong : ChangeSpec := { name := "fnBucketJoin", fn := fun _ => fun
  | [d1, d2] => { results := [.lit (.bool false)], args := [d1, d2] }
  | _ => none }
def FnBucketJoinWrongFalsely : Prop := fnBucketJoinRow.holds Try.pinned (OpenSpec.ofChange fnBucketJoinWrong)

/-- 'laws.FnSlashes': WHATEVER THE INPUT: true; the input reads as it did. -/
def fnSlashesSpec : ChangeSpec := { name := "fnSlashes", fn := fun _ => fun
  | [d] => { results := [.lit (.bool true)], args := [d] }
  | _ => none }
def fnSlashesRow : OpenClaim := { program := "ytecfojgamdilnaa", sum := "8a6eee4fcc3e77651586d5904cafe6539c82480f049e9cd93f91785a801adf29", func := "pub-longboat/laws.FnSlashes", spec := "fnSlashes", apart := false }
def FnSlashesSaid : Prop := fnSlashesRow.holds Try.pinned (OpenSpec.ofChange fnSlashesSpec)

/-- ITS FALSE NEIGHBOUR: 'it returns false'. Refute it at one input. -/
def fnSlashesWrong : ChangeSpec := { name := "fnSlashes", fn := fun _ => fun
  | [d] => { results := [.lit (.bool false)], args := [d] }
  | _ => none }
def FnSlashesWrongFalsely : Prop := fnSlashesRow.holds Try.pinned (OpenSpec.ofChange fnSlashesWrong)

/-- 'laws.FnLeafCheck': WHATEVER THE INPUT: true; the input reads as it did. -/
def fnLeafCheckSpec : ChangeSpec := { name := "fnLeafCheck", fn := fun _ => fun
  | [d] => { results := [.lit (.bool true)], args := [d] }
  | _ => none }
def fnLeafCheckRow : OpenClaim := { program := "ytecfojgamdilnaa", sum := "8a6eee4fcc3e77651586d5904cafe6539c82480f049e9cd93f91785a801adf29", func := "pub-longboat/laws.FnLeafCheck", spec := "fnLeafCheck", apart := false }
def FnLeafCheckSaid : Prop := fnLeafCheckRow.holds Try.pinned (OpenSpec.ofChange fnLeafCheckSpec)

/-- ITS FALSE NEIGHBOUR: 'it returns false'. Refute it at one input. -/
def fnLeafCheckWrong : ChangeSpec := { name := "fnLeafCheck", fn := fun _ => fun
  | [d] => { results := [.lit (.bool false)], args := [d] }
  | _ => none }
def FnLeafCheckWrongFalsely : Prop := fnLeafCheckRow.holds Try.pinned (OpenSpec.ofChange fnLeafCheckWrong)

/-- 'laws.FnRuleLine': WHATEVER THE INPUT: true; the input reads as it did. -/
def fnRuleLineSpec : ChangeSpec := { name := "fnRuleLine", fn := fun _ => fun
  | [d] => { results := [.lit (.bool true)], args := [d] }
  | _ => none }
def fnRuleLineRow : OpenClaim := { program := "ytecfojgamdilnaa", sum := "8a6eee4fcc3e77651586d5904cafe6539c82480f049e9cd93f91785a801adf29", func := "pub-longboat/laws.FnRuleLine", spec := "fnRuleLine", unfollowed := true, recurses := true, apart := false }
def FnRuleLineSaid : Prop := fnRuleLineRow.holds Try.pinned (OpenSpec.ofChange fnRuleLineSpec)

/-- ITS FALSE NEIGHBOUR: 'it returns false'. Refute it at one input. -/
def fnRuleLineWrong : ChangeSpec := { name := "fnRuleLine", fn := fun _ => fun
  | [d] => { results := [.lit (.bool false)], args := [d] }
  | _ => none }
def FnRuleLineWrongFalsely : Prop := fnRuleLineRow.holds Try.pinned (OpenSpec.ofChange fnRuleLineWrong)

/-- 'laws.FnBracketsTrim': WHATEVER THE INPUT: true; the input reads as it did. -/
def fnBracketsTrimSpec : ChangeSpec := { name := "fnBracketsTrim", fn := fun _ => fun
  | [d1, d2, d3] => { results := [.lit (.bool true)], args := [d1, d2, d3] }
  | _ => none }
def fnBracketsTrimRow : OpenClaim := { program := "ytecfojgamdilnaa", sum := "8a6eee4fcc3e77651586d5904cafe6539c82480f049e9cd93f91785a801adf29", func := "pub-longboat/laws.FnBracketsTrim", spec := "fnBracketsTrim", apart := false }
def FnBracketsTrimSaid : Prop := fnBracketsTrimRow.holds Try.pinned (OpenSpec.ofChange fnBracketsTrimSpec)

/-- ITS FALSE NEIGHBOUR: 'it returns false'. Refute it at one input. -/
def fnBracketsTrimWrong : ChangeSpec := { name := "fnBracketsTrim", fn := fun _ => fun
  | [d1, d2, d3] => { results := [.lit (.bool false)], args := [d1, d2, d3] }
  | _ => none }
def FnBracketsTrimWrongFalsely : Prop := fnBracketsTrimRow.holds Try.pinned (OpenSpec.ofChange fnBracketsTrimWrong)

/-- 'laws.FnEscapeAll': WHATEVER THE INPUT: true; the input reads as it did. -/
def fnEscapeAllSpec : ChangeSpec := { name := "fnEscapeAll", fn := fun _ => fun
  | [d] => { results := [.lit (.bool true)], args := [d] }
  | _ => none }
def fnEscapeAllRow : OpenClaim := { program := "ytecfojgamdilnaa", sum := "8a6eee4fcc3e77651586d5904cafe6539c82480f049e9cd93f91785a801adf29", func := "pub-longboat/laws.FnEscapeAll", spec := "fnEscapeAll", inPlace := ["internal/abi.NoEscape", "internal/bytealg.MakeNoZero"], apart := false }
def FnEscapeAllSaid : Prop := fnEscapeAllRow.holds Try.pinned (OpenSpec.ofChange fnEscapeAllSpec)

/-- ITS FALSE NEIGHBOUR: 'it returns false'. Refute it at one input. -/
def fnEscapeAllWrong : ChangeSpec := { name := "fnEscapeAll", fn := fun _ => fun
  | [d] => { results := [.lit (.bool false)], args := [d] }
  | _ => none }
def FnEscapeAllWrongFalsely : Prop := fnEscapeAllRow.holds Try.pinned (OpenSpec.ofChange fnEscapeAllWrong)

/- THE SECOND FORM. 'bulk': how many values and letters a reading holds, each counted each time it is reached (what is shared counts as often as it is met; a slice's spare places count too). A statement '..UptoSaid' is the law's where the arguments, and the package variables that the reading takes, are together of bulk at most 1048576: NARROWER than '..Said'. Prove '..Said' where nothing that the law and all that it calls make is longer than what came in: it says more and counts as full. Else prove '..UptoSaid'. A law counts once. -/
mutual
def uptoBulk {H : Type} : DataW H → Nat
  | .lit (.string bytes) => bytes.length + 1
  | .lit _ => 1
  | .nil => 1
  | .ptr d => uptoBulk d + 1
  | .slice elems spare => uptoBulkAll elems + uptoBulkAll spare + 1
  | .agg parts => uptoBulkAll parts + 1
  | .iface _ d => uptoBulk d + 1
  | .map entries => uptoBulkEntries entries + 1
  | .held _ => 1
def uptoBulkAll {H : Type} : List (DataW H) → Nat
  | [] => 0
  | d :: r => uptoBulk d + uptoBulkAll r
def uptoBulkEntries {H : Type} : List (Lit × DataW H) → Nat
  | [] => 0
  | x :: r => uptoBulkEntry x + uptoBulkEntries r
def uptoBulkEntry {H : Type} : Lit × DataW H → Nat
  | (.string bytes, d) => bytes.length + uptoBulk d + 1
  | (_, d) => uptoBulk d + 1
 end
def uptoSmall : (H : Type) → List (DataW H) → Bool := fun _ ds => decide (uptoBulkAll ds ≤ 1048576)
def OpenSpec.upto (s : _root_.Go.ChangeSpec) : _root_.Go.OpenSpec := { _root_.Go.OpenSpec.ofChange s with cond := some uptoSmall }

/-- 'laws.FnMaskHas', WHERE WHAT IT READS IS OF BULK AT MOST 1048576: true; the input reads as it did. -/
def fnMaskHasUptoRow : OpenClaim := { program := "ytecfojgamdilnaa", sum := "8a6eee4fcc3e77651586d5904cafe6539c82480f049e9cd93f91785a801adf29", func := "pub-longboat/laws.FnMaskHas", spec := "fnMaskHas", apart := false, narrowed := true }
def FnMaskHasUptoSaid : Prop := fnMaskHasUptoRow.holds Try.pinned (OpenSpec.upto fnMaskHasSpec)

/-- 'laws.FnBucketJoin', WHERE WHAT IT READS IS OF BULK AT MOST 1048576: true; the input reads as it did. -/
def fnBucketJoinUptoRow : OpenClaim := { program := "ytecfojgamdilnaa", sum := "8a6eee4fcc3e77651586d5904cafe6539c82480f049e9cd93f91785a801adf29", func := "pub-longboat/laws.FnBucketJoin", spec := "fnBucketJoin", apart := false, narrowed := true }
def FnBucketJoinUptoSaid : Prop := fnBucketJoinUptoRow.holds Try.pinned (OpenSpec.upto fnBucketJoinSpec)

/-- 'laws.FnSlashes', WHERE WHAT IT READS IS OF BULK AT MOST 1048576: true; the input reads as it did. -/
def fnSlashesUptoRow : OpenClaim := { program := "ytecfojgamdilnaa", sum := "8a6eee4fcc3e77651586d5904cafe6539c82480f049e9cd93f91785a801adf29", func := "pub-longboat/laws.FnSlashes", spec := "fnSlashes", apart := false, narrowed := true }
def FnSlashesUptoSaid : Prop := fnSlashesUptoRow.holds Try.pinned (OpenSpec.upto fnSlashesSpec)

/-- 'laws.FnLeafCheck', WHERE WHAT IT READS IS OF BULK AT MOST 1048576: true; the input reads as it did. -/
def fnLeafCheckUptoRow : OpenClaim := { program := "ytecfojgamdilnaa", sum := "8a6eee4fcc3e77651586d5904cafe6539c82480f049e9cd93f91785a801adf29", func := "pub-longboat/laws.FnLeafCheck", spec := "fnLeafCheck", apart := false, narrowed := true }
def FnLeafCheckUptoSaid : Prop := fnLeafCheckUptoRow.holds Try.pinned (OpenSpec.upto fnLeafCheckSpec)

/-- 'laws.FnRuleLine', WHERE WHAT IT READS IS OF BULK AT MOST 1048576: true; the input reads as it did. -/
def fnRuleLineUptoRow : OpenClaim := { program := "ytecfojgamdilnaa", sum := "8a6eee4fcc3e77651586d5904cafe6539c82480f049e9cd93f91785a801adf29", func := "pub-longboat/laws.FnRuleLine", spec := "fnRuleLine", unfollowed := true, recurses := true, apart := false, narrowed := true }
def FnRuleLineUptoSaid : Prop := fnRuleLineUptoRow.holds Try.pinned (OpenSpec.upto fnRuleLineSpec)

/-- 'laws.FnBracketsTrim', WHERE WHAT IT READS IS OF BULK AT MOST 1048576: true; the input reads as it did. -/
def fnBracketsTrimUptoRow : OpenClaim := { program := "ytecfojgamdilnaa", sum := "8a6eee4fcc3e77651586d5904cafe6539c82480f049e9cd93f91785a801adf29", func := "pub-longboat/laws.FnBracketsTrim", spec := "fnBracketsTrim", apart := false, narrowed := true }
def FnBracketsTrimUptoSaid : Prop := fnBracketsTrimUptoRow.holds Try.pinned (OpenSpec.upto fnBracketsTrimSpec)

/-- 'laws.FnEscapeAll', WHERE WHAT IT READS IS OF BULK AT MOST 1048576: true; the input reads as it did. -/
def fnEscapeAllUptoRow : OpenClaim := { program := "ytecfojgamdilnaa", sum := "8a6eee4fcc3e77651586d5904cafe6539c82480f049e9cd93f91785a801adf29", func := "pub-longboat/laws.FnEscapeAll", spec := "fnEscapeAll", inPlace := ["internal/abi.NoEscape", "internal/bytealg.MakeNoZero"], apart := false, narrowed := true }
def FnEscapeAllUptoSaid : Prop := fnEscapeAllUptoRow.holds Try.pinned (OpenSpec.upto fnEscapeAllSpec)

end Rows
end Go.Proofs.Ytecfojgamdilnaa
