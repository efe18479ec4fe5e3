/-
  NARROWER THAN 'FOR EVERY INPUT', by the rows' own cells (each row's printed sentence says how): FnBucketApart: laid · FnBucketOnce: laid.
  DERIVED. THE GIVEN ROWS OF THIS SEAT. 2 by the template 'for every input the law returns true; each argument reads behind the call as it read before'; 0 by the template 'total and deterministic' (their statements: YtbennnoddflggaaDoorTotals.lean).
  GIVEN WITH THE SEED: the statements are not yours to turn. If you find one false, say at which input.
  Laid BY PROGRAM, IN A SANDBOX (cutbox-rows.mjs): the forced cells as the released guide's own fill.sh prints them over the translation df442b6b77352802… (all of the seat's roots in one cut). By AI agents, Wed Nov 11 2026. No macro, syntax, notation, axiom, sorry.
-/
import Derived.Test.YtbennnoddflggaaDoorChecked
import GoSem.Claim
import GoSem.ClaimJoined
import GoSem.ClaimMapViews
import Derived.JoinedTies
import Derived.KernelRfl
namespace Go.Proofs.YtbennnoddflggaaDoor
/- THE CELL 'sum', in the pinned program and in every row, IS THE sha256 OF THE DUMP (.gsa) THAT YtbennnoddflggaaDoorProg.lean LOADS. Nothing in Lean hashes anything: it is a label: what it is worth is what the hold of that sum in a sandbox is worth. -/
noncomputable def Tryd.pinned : Pinned := { name := "ytbennnoddflggaadoor", sum := "df442b6b77352802c77391b51fd19cade07d05cbe15745ae804d85793129f27f", checked := Tryd.checked }
namespace Rows
def none {H : Type} : Left H := { results := [], args := [] }

/- WHAT THE LISTED PACKAGE-LEVEL VARIABLES READ AS WHEN THE CALL BEGINS. Each datum BY PROGRAM (the guide's laid-datum.mjs) off the statement by which the dump's own 'gosem.cut.vars' lays the variable. In a bare row this is a premise. The card (YtbennnoddflggaaDoorCards.lean) ties it to the program's text. -/
def laid_pub_longboat_pub_bucket_ErrAlreadyDeleted {H : Type} : DataW H := .iface "*errors.errorString" (.ptr (.agg [.lit (.string [98, 117, 99, 107, 101, 116, 32, 97, 108, 114, 101, 97, 100, 121, 32, 100, 101, 108, 101, 116, 101, 100])]))

/-- 'laws.FnBucketApart': WHATEVER THE INPUT: true; the input reads as it did. -/
def fnBucketApartSpec : ChangeSpec := { name := "fnBucketApart", fn := fun _ => fun
  | [d1, d2] => { results := [.lit (.bool true)], args := [d1, d2] }
  | _ => none }
def fnBucketApartRow : OpenClaim := { program := "ytbennnoddflggaadoor", sum := "df442b6b77352802c77391b51fd19cade07d05cbe15745ae804d85793129f27f", func := "pub-longboat/laws.FnBucketApart", spec := "fnBucketApart", unfollowed := true, recurses := true, named := ["pub-longboat/pub/bucket.ErrAlreadyDeleted"], apart := false, laid := [("pub-longboat/pub/bucket.ErrAlreadyDeleted", laid_pub_longboat_pub_bucket_ErrAlreadyDeleted)] }
def FnBucketApartSaid : Prop := fnBucketApartRow.holds Tryd.pinned (OpenSpec.ofChange fnBucketApartSpec)

/-- ITS FALSE NEIGHBOUR: 'it returns false'. Refute it at one input. -/
def fnBucketApartWrong : ChangeSpec := { name := "fnBucketApart", fn := fun _ => fun
  | [d1, d2] => { results := [.lit (.bool false)], args := [d1, d2] }
  | _ => none }
def FnBucketApartWrongFalsely : Prop := fnBucketApartRow.holds Tryd.pinned (OpenSpec.ofChange fnBucketApartWrong)

/-- 'laws.FnBucketOnce': WHATEVER THE INPUT: true; the input reads as it did. -/
def fnBucketOnceSpec : ChangeSpec := { name := "fnBucketOnce", fn := fun _ => fun
  | [d] => { results := [.lit (.bool true)], args := [d] }
  | _ => none }
def fnBucketOnceRow : OpenClaim := { program := "ytbennnoddflggaadoor", sum := "df442b6b77352802c77391b51fd19cade07d05cbe15745ae804d85793129f27f", func := "pub-longboat/laws.FnBucketOnce", spec := "fnBucketOnce", unfollowed := true, recurses := true, named := ["pub-longboat/pub/bucket.ErrAlreadyDeleted"], apart := false, laid := [("pub-longboat/pub/bucket.ErrAlreadyDeleted", laid_pub_longboat_pub_bucket_ErrAlreadyDeleted)] }
def FnBucketOnceSaid : Prop := fnBucketOnceRow.holds Tryd.pinned (OpenSpec.ofChange fnBucketOnceSpec)

/-- ITS FALSE NEIGHBOUR: 'it returns false'. Refute it at one input. -/
def fnBucketOnceWrong : ChangeSpec := { name := "fnBucketOnce", fn := fun _ => fun
  | [d] => { results := [.lit (.bool false)], args := [d] }
  | _ => none }
def FnBucketOnceWrongFalsely : Prop := fnBucketOnceRow.holds Tryd.pinned (OpenSpec.ofChange fnBucketOnceWrong)

/- THE SECOND FORM. 'bulk': how many values and letters a reading holds, each counted each time it is reached (what is shared counts as often as it is met; a slice's spare places count too). A statement '..UptoSaid' is the law's where the arguments, and the package variables that the reading takes, are together of bulk at most 1048576: NARROWER than '..Said'. Prove '..Said' where nothing that the law and all that it calls make is longer than what came in: it says more and counts as full. Else prove '..UptoSaid'. A law counts once. -/
mutual
def uptoBulk {H : Type} : DataW H → Nat
  | .lit (.string bytes) => bytes.length + 1
  | .lit _ => 1
  | .nil => 1
  | .ptr d => uptoBulk d + 1
  | .slice elems spare => uptoBulkAll elems + uptoBulkAll spare + 1
  | .agg parts => uptoBulkAll parts + 1
  | .iface _ d => uptoBulk d + 1
  | .map entries => uptoBulkEntries entries + 1
  | .held _ => 1
def uptoBulkAll {H : Type} : List (DataW H) → Nat
  | [] => 0
  | d :: r => uptoBulk d + uptoBulkAll r
def uptoBulkEntries {H : Type} : List (Lit × DataW H) → Nat
  | [] => 0
  | x :: r => uptoBulkEntry x + uptoBulkEntries r
def uptoBulkEntry {H : Type} : Lit × DataW H → Nat
  | (.string bytes, d) => bytes.length + uptoBulk d + 1
  | (_, d) => uptoBulk d + 1
 end
def uptoSmall : (H : Type) → List (DataW H) → Bool := fun _ ds => decide (uptoBulkAll ds ≤ 1048576)
def OpenSpec.upto (s : _root_.Go.ChangeSpec) : _root_.Go.OpenSpec := { _root_.Go.OpenSpec.ofChange s with cond := some uptoSmall }

/-- 'laws.FnBucketApart', WHERE WHAT IT READS IS OF BULK AT MOST 1048576: true; the input reads as it did. -/
def fnBucketApartUptoRow : OpenClaim := { program := "ytbennnoddflggaadoor", sum := "df442b6b77352802c77391b51fd19cade07d05cbe15745ae804d85793129f27f", func := "pub-longboat/laws.FnBucketApart", spec := "fnBucketApart", unfollowed := true, recurses := true, named := ["pub-longboat/pub/bucket.ErrAlreadyDeleted"], apart := false, laid := [("pub-longboat/pub/bucket.ErrAlreadyDeleted", laid_pub_longboat_pub_bucket_ErrAlreadyDeleted)], narrowed := true }
def FnBucketApartUptoSaid : Prop := fnBucketApartUptoRow.holds Tryd.pinned (OpenSpec.upto fnBucketApartSpec)

/-- 'laws.FnBucketOnce', WHERE WHAT IT READS IS OF BULK AT MOST 1048576: true; the input reads as it did. -/
def fnBucketOnceUptoRow : OpenClaim := { program := "ytbennnoddflggaadoor", sum := "df442b6b77352802c77391b51fd19cade07d05cbe15745ae804d85793129f27f", func := "pub-longboat/laws.FnBucketOnce", spec := "fnBucketOnce", unfollowed := true, recurses := true, named := ["pub-longboat/pub/bucket.ErrAlreadyDeleted"], apart := false, laid := [("pub-longboat/pub/bucket.ErrAlreadyDeleted", laid_pub_longboat_pub_bucket_ErrAlreadyDeleted)], narrowed := true }
def FnBucketOnceUptoSaid : Prop := fnBucketOnceUptoRow.holds Tryd.pinned (OpenSpec.upto fnBucketOnceSpec)

end Rows
end Go.Proofs.YtbennnoddflggaaDoor
