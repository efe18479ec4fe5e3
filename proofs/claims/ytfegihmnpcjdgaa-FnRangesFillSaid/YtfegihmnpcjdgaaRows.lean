/-
  No cell of these rows narrows 'for every input' (looked for: loops, veiled, ifaces, maps, wideKeys, modest, calm, conditions, laid).
  DERIVED. THE GIVEN ROWS OF THIS SEAT. 9 by the template 'for every input the law returns true; each argument reads behind the call as it read before'; 0 by the template 'total and deterministic' (their statements: YtfegihmnpcjdgaaTotals.lean).
  GIVEN WITH THE SEED: the statements are not yours to turn. If you find one false, say at which input.
  Laid BY PROGRAM, IN A SANDBOX (cutbox-rows.mjs): the forced cells as the released guide's own fill.sh prints them over the translation d327346a474bcbe3… (all of the seat's roots in one cut). By AI agents, Wed Nov 11 2026. No macro, syntax, notation, axiom, sorry.
-/
import Derived.Test.YtfegihmnpcjdgaaChecked
import GoSem.Claim
import GoSem.ClaimJoined
import GoSem.ClaimMapViews
import Derived.JoinedTies
import Derived.KernelRfl
namespace Go.Proofs.Ytfegihmnpcjdgaa
/- THE CELL 'sum', in the pinned program and in every row, IS THE sha256 OF THE DUMP (.gsa) THAT YtfegihmnpcjdgaaProg.lean LOADS. Nothing in Lean hashes anything: it is a label: what it is worth is what the hold of that sum in a sandbox is worth. -/
noncomputable def Try.pinned : Pinned := { name := "ytfegihmnpcjdgaa", sum := "d327346a474bcbe3ae78eed2c8ffa53e11ac0163f76fa6b9f5cdad8a8d9a8df9", checked := Try.checked }
namespace Rows
def none {H : Type} : Left H := { results := [], args := [] }

/-- 'laws.FnRangesAgain': WHATEVER THE INPUT: true; the input reads as it did. -/
def fnRangesAgainSpec : ChangeSpec := { name := "fnRangesAgain", fn := fun _ => fun
  | [d] => { results := [.lit (.bool true)], args := [d] }
  | _ => none }
def fnRangesAgainRow : OpenClaim := { program := "ytfegihmnpcjdgaa", sum := "d327346a474bcbe3ae78eed2c8ffa53e11ac0163f76fa6b9f5cdad8a8d9a8df9", func := "pub-longboat/laws.FnRangesAgain", spec := "fnRangesAgain", unfollowed := true, recurses := true, apart := false }
def FnRangesAgainSaid : Prop := fnRangesAgainRow.holds Try.pinned (OpenSpec.ofChange fnRangesAgainSpec)

/-- ITS FALSE NEIGHBOUR: 'it returns false'. Refute it at one input. -/
def fnRangesAgainWrong : ChangeSpec := { name := "fnRangesAgain", fn := fun _ => fun
  | [d] => { results := [.lit (.bool false)], args := [d] }
  | _ => none }
def FnRangesAgainWrongFalsely : Prop := fnRangesAgainRow.holds Try.pinned (OpenSpec.ofChange fnRangesAgainWrong)

/-- 'laws.FnRangesFindAll': WHATEVER THE INPUT: true; the input reads as it did. -/
def fnRangesFindAllSpec : ChangeSpec := { name := "fnRangesFindAll", fn := fun _ => fun
  | [d1, d2] => { results := [.lit (.bool true)], args := [d1, d2] }
  | _ => none }
def fnRangesFindAllRow : OpenClaim := { program := "ytfegihmnpcjdgaa", sum := "d327346a474bcbe3ae78eed2c8ffa53e11ac0163f76fa6b9f5cdad8a8d9a8df9", func := "pub-longboat/laws.FnRangesFindAll", spec := "fnRangesFindAll", unfollowed := true, recurses := true, apart := false }
def FnRangesFindAllSaid : Prop := fnRangesFindAllRow.holds Try.pinned (OpenSpec.ofChange fnRangesFindAllSpec)

/-- ITS FALSE NEIGHBOUR: 'it returns false'. Refute it at one input. -/
def fnRangesFindAllWrong : ChangeSpec := { name := "fnRangesFindAll", fn := fun _ => fun
  | [d1, d2] => { results := [.lit (.bool false)], args := [d1, d2] }
  | _ => none }
def FnRangesFindAllWrongFalsely : Prop := fnRangesFindAllRow.holds Try.pinned (OpenSpec.ofChange fnRangesFindAllWrong)

/-- 'laws.FnRangesOf': WHATEVER THE INPUT: true; the input reads as it did. -/
def fnRangesOfSpec : ChangeSpec := { name := "fnRangesOf", fn := fun _ => fun
  | [d] => { results := [.lit (.bool true)], args := [d] }
  | _ => none }
def fnRangesOfRow : OpenClaim := { program := "ytfegihmnpcjdgaa", sum := "d327346a474bcbe3ae78eed2c8ffa53e11ac0163f76fa6b9f5cdad8a8d9a8df9", func := "pub-longboat/laws.FnRangesOf", spec := "fnRangesOf", unfollowed := true, recurses := true, apart := false }
def FnRangesOfSaid : Prop := fnRangesOfRow.holds Try.pinned (OpenSpec.ofChange fnRangesOfSpec)

/-- ITS FALSE NEIGHBOUR: 'it returns false'. Refute it at one input. -/
def fnRangesOfWrong : ChangeSpec := { name := "fnRangesOf", fn := fun _ => fun
  | [d] => { results := [.lit (.bool false)], args := [d] }
  | _ => none }
def FnRangesOfWrongFalsely : Prop := fnRangesOfRow.holds Try.pinned (OpenSpec.ofChange fnRangesOfWrong)

/-- 'laws.FnRangesWalk': WHATEVER THE INPUT: true; the input reads as it did. -/
def fnRangesWalkSpec : ChangeSpec := { name := "fnRangesWalk", fn := fun _ => fun
  | [d1, d2] => { results := [.lit (.bool true)], args := [d1, d2] }
  | _ => none }
def fnRangesWalkRow : OpenClaim := { program := "ytfegihmnpcjdgaa", sum := "d327346a474bcbe3ae78eed2c8ffa53e11ac0163f76fa6b9f5cdad8a8d9a8df9", func := "pub-longboat/laws.FnRangesWalk", spec := "fnRangesWalk", unfollowed := true, recurses := true, apart := false }
def FnRangesWalkSaid : Prop := fnRangesWalkRow.holds Try.pinned (OpenSpec.ofChange fnRangesWalkSpec)

/-- ITS FALSE NEIGHBOUR: 'it returns false'. Refute it at one input. -/
def fnRangesWalkWrong : ChangeSpec := { name := "fnRangesWalk", fn := fun _ => fun
  | [d1, d2] => { results := [.lit (.bool false)], args := [d1, d2] }
  | _ => none }
def FnRangesWalkWrongFalsely : Prop := fnRangesWalkRow.holds Try.pinned (OpenSpec.ofChange fnRangesWalkWrong)

/-- 'laws.FnRangesCut': WHATEVER THE INPUT: true; the input reads as it did. -/
def fnRangesCutSpec : ChangeSpec := { name := "fnRangesCut", fn := fun _ => fun
  | [d1, d2] => { results := [.lit (.bool true)], args := [d1, d2] }
  | _ => none }
def fnRangesCutRow : OpenClaim := { program := "ytfegihmnpcjdgaa", sum := "d327346a474bcbe3ae78eed2c8ffa53e11ac0163f76fa6b9f5cdad8a8d9a8df9", func := "pub-longboat/laws.FnRangesCut", spec := "fnRangesCut", unfollowed := true, recurses := true, apart := false }
def FnRangesCutSaid : Prop := fnRangesCutRow.holds Try.pinned (OpenSpec.ofChange fnRangesCutSpec)

/-- ITS FALSE NEIGHBOUR: 'it returns false'. Refute it at one input. -/
def fnRangesCutWrong : ChangeSpec := { name := "fnRangesCut", fn := fun _ => fun
  | [d1, d2] => { results := [.lit (.bool false)], args := [d1, d2] }
  | _ => none }
def FnRangesCutWrongFalsely : Prop := fnRangesCutRow.holds Try.pinned (OpenSpec.ofChange fnRangesCutWrong)

/-- 'laws.FnRangeClip': WHATEVER THE INPUT: true; the input reads as it did. -/
def fnRangeClipSpec : ChangeSpec := { name := "fnRangeClip", fn := fun _ => fun
  | [d1, d2] => { results := [.lit (.bool true)], args := [d1, d2] }
  | _ => none }
def fnRangeClipRow : OpenClaim := { program := "ytfegihmnpcjdgaa", sum := "d327346a474bcbe3ae78eed2c8ffa53e11ac0163f76fa6b9f5cdad8a8d9a8df9", func := "pub-longboat/laws.FnRangeClip", spec := "fnRangeClip", unfollowed := true, recurses := true, apart := false }
def FnRangeClipSaid : Prop := fnRangeClipRow.holds Try.pinned (OpenSpec.ofChange fnRangeClipSpec)

/-- ITS FALSE NEIGHBOUR: 'it returns false'. Refute it at one input. -/
def fnRangeClipWrong : ChangeSpec := { name := "fnRangeClip", fn := fun _ => fun
  | [d1, d2] => { results := [.lit (.bool false)], args := [d1, d2] }
  | _ => none }
def FnRangeClipWrongFalsely : Prop := fnRangeClipRow.holds Try.pinned (OpenSpec.ofChange fnRangeClipWrong)

/-- 'laws.FnRangesSize': WHATEVER THE INPUT: true; the input reads as it did. -/
def fnRangesSizeSpec : ChangeSpec := { name := "fnRangesSize", fn := fun _ => fun
  | [d1, d2] => { results := [.lit (.bool true)], args := [d1, d2] }
  | _ => none }
def fnRangesSizeRow : OpenClaim := { program := "ytfegihmnpcjdgaa", sum := "d327346a474bcbe3ae78eed2c8ffa53e11ac0163f76fa6b9f5cdad8a8d9a8df9", func := "pub-longboat/laws.FnRangesSize", spec := "fnRangesSize", unfollowed := true, recurses := true, apart := false }
def FnRangesSizeSaid : Prop := fnRangesSizeRow.holds Try.pinned (OpenSpec.ofChange fnRangesSizeSpec)

/-- ITS FALSE NEIGHBOUR: 'it returns false'. Refute it at one input. -/
def fnRangesSizeWrong : ChangeSpec := { name := "fnRangesSize", fn := fun _ => fun
  | [d1, d2] => { results := [.lit (.bool false)], args := [d1, d2] }
  | _ => none }
def FnRangesSizeWrongFalsely : Prop := fnRangesSizeRow.holds Try.pinned (OpenSpec.ofChange fnRangesSizeWrong)

/-- 'laws.FnRangesFill': WHATEVER THE INPUT: true; the input reads as it did. -/
def fnRangesFillSpec : ChangeSpec := { name := "fnRangesFill", fn := fun _ => fun
  | [d1, d2, d3] => { results := [.lit (.bool true)], args := [d1, d2, d3] }
  | _ => none }
def fnRangesFillRow : OpenClaim := { program := "ytfegihmnpcjdgaa", sum := "d327346a474bcbe3ae78eed2c8ffa53e11ac0163f76fa6b9f5cdad8a8d9a8df9", func := "pub-longboat/laws.FnRangesFill", spec := "fnRangesFill", unfollowed := true, recurses := true, apart := false }
def FnRangesFillSaid : Prop := fnRangesFillRow.holds Try.pinned (OpenSpec.ofChange fnRangesFillSpec)

/-- ITS FALSE NEIGHBOUR: 'it returns false'. Refute it at one input. -/
def fnRangesFillWrong : ChangeSpec := { name := "fnRangesFill", fn := fun _ => fun
  | [d1, d2, d3] => { results := [.lit (.bool false)], args := [d1, d2, d3] }
  | _ => none }
def FnRangesFillWrongFalsely : Prop := fnRangesFillRow.holds Try.pinned (OpenSpec.ofChange fnRangesFillWrong)

/-- 'laws.FnRangesSteps': WHATEVER THE INPUT: true; the input reads as it did. -/
def fnRangesStepsSpec : ChangeSpec := { name := "fnRangesSteps", fn := fun _ => fun
  | [d] => { results := [.lit (.bool true)], args := [d] }
  | _ => none }
def fnRangesStepsRow : OpenClaim := { program := "ytfegihmnpcjdgaa", sum := "d327346a474bcbe3ae78eed2c8ffa53e11ac0163f76fa6b9f5cdad8a8d9a8df9", func := "pub-longboat/laws.FnRangesSteps", spec := "fnRangesSteps", unfollowed := true, recurses := true, apart := false }
def FnRangesStepsSaid : Prop := fnRangesStepsRow.holds Try.pinned (OpenSpec.ofChange fnRangesStepsSpec)

/-- ITS FALSE NEIGHBOUR: 'it returns false'. Refute it at one input. -/
def fnRangesStepsWrong : ChangeSpec := { name := "fnRangesSteps", fn := fun _ => fun
  | [d] => { results := [.lit (.bool false)], args := [d] }
  | _ => none }
def FnRangesStepsWrongFalsely : Prop := fnRangesStepsRow.holds Try.pinned (OpenSpec.ofChange fnRangesStepsWrong)

/- THE SECOND FORM. 'bulk': how many values and letters a reading holds, each counted each time it is reached (what is shared counts as often as it is met; a slice's spare places count too). A statement '..UptoSaid' is the law's where the arguments, and the package variables that the reading takes, are together of bulk at most 1048576: NARROWER than '..Said'. Prove '..Said' where nothing that the law and all that it calls make is longer than what came in: it says more and counts as full. Else prove '..UptoSaid'. A law counts once. -/
mutual
def uptoBulk {H : Type} : DataW H → Nat
  | .lit (.string bytes) => bytes.length + 1
  | .lit _ => 1
  | .nil => 1
  | .ptr d => uptoBulk d + 1
  | .slice elems spare => uptoBulkAll elems + uptoBulkAll spare + 1
  | .agg parts => uptoBulkAll parts + 1
  | .iface _ d => uptoBulk d + 1
  | .map entries => uptoBulkEntries entries + 1
  | .held _ => 1
def uptoBulkAll {H : Type} : List (DataW H) → Nat
  | [] => 0
  | d :: r => uptoBulk d + uptoBulkAll r
def uptoBulkEntries {H : Type} : List (Lit × DataW H) → Nat
  | [] => 0
  | x :: r => uptoBulkEntry x + uptoBulkEntries r
def uptoBulkEntry {H : Type} : Lit × DataW H → Nat
  | (.string bytes, d) => bytes.length + uptoBulk d + 1
  | (_, d) => uptoBulk d + 1
 end
def uptoSmall : (H : Type) → List (DataW H) → Bool := fun _ ds => decide (uptoBulkAll ds ≤ 1048576)
def OpenSpec.upto (s : _root_.Go.ChangeSpec) : _root_.Go.OpenSpec := { _root_.Go.OpenSpec.ofChange s with cond := some uptoSmall }

/-- 'laws.FnRangesAgain', WHERE WHAT IT READS IS OF BULK AT MOST 1048576: true; the input reads as it did. -/
def fnRangesAgainUptoRow : OpenClaim := { program := "ytfegihmnpcjdgaa", sum := "d327346a474bcbe3ae78eed2c8ffa53e11ac0163f76fa6b9f5cdad8a8d9a8df9", func := "pub-longboat/laws.FnRangesAgain", spec := "fnRangesAgain", unfollowed := true, recurses := true, apart := false, narrowed := true }
def FnRangesAgainUptoSaid : Prop := fnRangesAgainUptoRow.holds Try.pinned (OpenSpec.upto fnRangesAgainSpec)

/-- 'laws.FnRangesFindAll', WHERE WHAT IT READS IS OF BULK AT MOST 1048576: true; the input reads as it did. -/
def fnRangesFindAllUptoRow : OpenClaim := { program := "ytfegihmnpcjdgaa", sum := "d327346a474bcbe3ae78eed2c8ffa53e11ac0163f76fa6b9f5cdad8a8d9a8df9", func := "pub-longboat/laws.FnRangesFindAll", spec := "fnRangesFindAll", unfollowed := true, recurses := true, apart := false, narrowed := true }
def FnRangesFindAllUptoSaid : Prop := fnRangesFindAllUptoRow.holds Try.pinned (OpenSpec.upto fnRangesFindAllSpec)

/-- 'laws.FnRangesOf', WHERE WHAT IT READS IS OF BULK AT MOST 1048576: true; the input reads as it did. -/
def fnRangesOfUptoRow : OpenClaim := { program := "ytfegihmnpcjdgaa", sum := "d327346a474bcbe3ae78eed2c8ffa53e11ac0163f76fa6b9f5cdad8a8d9a8df9", func := "pub-longboat/laws.FnRangesOf", spec := "fnRangesOf", unfollowed := true, recurses := true, apart := false, narrowed := true }
def FnRangesOfUptoSaid : Prop := fnRangesOfUptoRow.holds Try.pinned (OpenSpec.upto fnRangesOfSpec)

/-- 'laws.FnRangesWalk', WHERE WHAT IT READS IS OF BULK AT MOST 1048576: true; the input reads as it did. -/
def fnRangesWalkUptoRow : OpenClaim := { program := "ytfegihmnpcjdgaa", sum := "d327346a474bcbe3ae78eed2c8ffa53e11ac0163f76fa6b9f5cdad8a8d9a8df9", func := "pub-longboat/laws.FnRangesWalk", spec := "fnRangesWalk", unfollowed := true, recurses := true, apart := false, narrowed := true }
def FnRangesWalkUptoSaid : Prop := fnRangesWalkUptoRow.holds Try.pinned (OpenSpec.upto fnRangesWalkSpec)

/-- 'laws.FnRangesCut', WHERE WHAT IT READS IS OF BULK AT MOST 1048576: true; the input reads as it did. -/
def fnRangesCutUptoRow : OpenClaim := { program := "ytfegihmnpcjdgaa", sum := "d327346a474bcbe3ae78eed2c8ffa53e11ac0163f76fa6b9f5cdad8a8d9a8df9", func := "pub-longboat/laws.FnRangesCut", spec := "fnRangesCut", unfollowed := true, recurses := true, apart := false, narrowed := true }
def FnRangesCutUptoSaid : Prop := fnRangesCutUptoRow.holds Try.pinned (OpenSpec.upto fnRangesCutSpec)

/-- 'laws.FnRangeClip', WHERE WHAT IT READS IS OF BULK AT MOST 1048576: true; the input reads as it did. -/
def fnRangeClipUptoRow : OpenClaim := { program := "ytfegihmnpcjdgaa", sum := "d327346a474bcbe3ae78eed2c8ffa53e11ac0163f76fa6b9f5cdad8a8d9a8df9", func := "pub-longboat/laws.FnRangeClip", spec := "fnRangeClip", unfollowed := true, recurses := true, apart := false, narrowed := true }
def FnRangeClipUptoSaid : Prop := fnRangeClipUptoRow.holds Try.pinned (OpenSpec.upto fnRangeClipSpec)

/-- 'laws.FnRangesSize', WHERE WHAT IT READS IS OF BULK AT MOST 1048576: true; the input reads as it did. -/
def fnRangesSizeUptoRow : OpenClaim := { program := "ytfegihmnpcjdgaa", sum := "d327346a474bcbe3ae78eed2c8ffa53e11ac0163f76fa6b9f5cdad8a8d9a8df9", func := "pub-longboat/laws.FnRangesSize", spec := "fnRangesSize", unfollowed := true, recurses := true, apart := false, narrowed := true }
def FnRangesSizeUptoSaid : Prop := fnRangesSizeUptoRow.holds Try.pinned (OpenSpec.upto fnRangesSizeSpec)

/-- 'laws.FnRangesFill', WHERE WHAT IT READS IS OF BULK AT MOST 1048576: true; the input reads as it did. -/
def fnRangesFillUptoRow : OpenClaim := { program := "ytfegihmnpcjdgaa", sum := "d327346a474bcbe3ae78eed2c8ffa53e11ac0163f76fa6b9f5cdad8a8d9a8df9", func := "pub-longboat/laws.FnRangesFill", spec := "fnRangesFill", unfollowed := true, recurses := true, apart := false, narrowed := true }
def FnRangesFillUptoSaid : Prop := fnRangesFillUptoRow.holds Try.pinned (OpenSpec.upto fnRangesFillSpec)

/-- 'laws.FnRangesSteps', WHERE WHAT IT READS IS OF BULK AT MOST 1048576: true; the input reads as it did. -/
def fnRangesStepsUptoRow : OpenClaim := { program := "ytfegihmnpcjdgaa", sum := "d327346a474bcbe3ae78eed2c8ffa53e11ac0163f76fa6b9f5cdad8a8d9a8df9", func := "pub-longboat/laws.FnRangesSteps", spec := "fnRangesSteps", unfollowed := true, recurses := true, apart := false, narrowed := true }
def FnRangesStepsUptoSaid : Prop := fnRangesStepsUptoRow.holds Try.pinned (OpenSpec.upto fnRangesStepsSpec)

end Rows
end Go.Proofs.Ytfegihmnpcjdgaa
