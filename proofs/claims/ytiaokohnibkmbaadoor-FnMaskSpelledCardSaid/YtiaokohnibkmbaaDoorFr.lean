import Derived.Test.YtiaokohnibkmbaaDoorProg
import Derived.Calls
import Derived.Tactics
import Derived.WalkKit
import Derived.Lib.Hide
import Derived.WalkSmall
import Derived.Laws.Entries
import Derived.Laws.Concat
import Derived.StringKeys
import Derived.Shelf.Abstract
import Derived.Lib.RuneBytes
import Derived.Laws.Strings2
import Derived.Laws.Strings3
import Derived.Lib.OthersKept
import Derived.Lib.BufferKept
import Derived.Lib.BufferOld
import Derived.WalkLawsBesides
namespace Go.Proofs.YtiaokohnibkmbaaDoor.Fr
open Go Go.RowKit
set_option linter.unusedVariables false
set_option linter.unusedSimpArgs false

/-! ### frames that are not written out -/
variable {P : Program} {ops : Array Oper} {Q : Exit → Act → World → Prop} {a : Act} {w w' : World} {rest : List Oper} {o : Oper}
theorem size_put (a : Act) (d : Option Tmp) (v : Value) : (a.put d v).tmps.size = a.tmps.size := by cases d <;> simp [Act.put]
theorem defers_put (a : Act) (d : Option Tmp) (v : Value) : (a.put d v).defers = a.defers := by cases d <;> simp [Act.put]
theorem eval_same (a : Act) (d : Nat) (v : Value) (h : d < a.tmps.size) : (a.put (some d) v).eval (.tmp d) = v := by
  simp [Act.put, Act.eval, Array.getD, h]
theorem eval_other (a : Act) (d s : Nat) (v : Value) (h : s ≠ d) : (a.put (some d) v).eval (.tmp s) = a.eval (.tmp s) := by
  simp only [Act.put, Act.eval, Array.getD_eq_getD_getElem?]
  rw [Array.getElem?_setIfInBounds_ne (Ne.symm h)]
theorem eval_const (a : Act) (v : Value) : a.eval (.const v) = v := rfl
/-- A frame that differs in slots from lo to hi alone. -/
structure Same (lo hi : Nat) (a a' : Act) : Prop where
  size : a'.tmps.size = a.tmps.size
  slot : ∀ s, (s < lo ∨ hi < s) → a'.eval (.tmp s) = a.eval (.tmp s)
  defers : a'.defers = a.defers
theorem Same.refl {lo hi : Nat} (a : Act) : Same lo hi a a := ⟨rfl, fun _ _ => rfl, rfl⟩
theorem Same.trans {lo hi : Nat} {a b c : Act} (h : Same lo hi a b) (h' : Same lo hi b c) : Same lo hi a c :=
  ⟨h'.size.trans h.size, fun s hs => (h'.slot s hs).trans (h.slot s hs), h'.defers.trans h.defers⟩
theorem Same.put {lo hi : Nat} {a b : Act} (h : Same lo hi a b) (d : Nat) (v : Value) (h1 : lo ≤ d) (h2 : d ≤ hi) : Same lo hi a (b.put (some d) v) :=
  ⟨(size_put _ _ _).trans h.size, fun s hs => (eval_other _ _ _ _ (by omega)).trans (h.slot s hs), (defers_put _ _ _).trans h.defers⟩

theorem step {v : Value} (hg : o.guard = none) (hr : (execOp a.eval o).run P w = .ok (.value v) w') (h : wpList P ops Q rest (a.put o.dst v) w') : wpList P ops Q (o :: rest) a w := by
  unfold wpList
  rw [if_pos (by simp [Region.wanted, hg])]
  left
  unfold Oper.wp
  rw [hr]
  exact h
theorem move {d : Option Tmp} {x : Operand} {ty : TypeId} {pos : String} {aft : Array Edge} (h : wpList P ops Q rest (a.put d (a.eval x)) w) :
    wpList P ops Q ({ dst := d, op := .move x, type := ty, pos := pos, after := aft, guard := none } :: rest) a w := step rfl rfl h
theorem assign {d : Option Tmp} {x : Operand} {ty : TypeId} {pos : String} {aft : Array Edge} (h : wpList P ops Q rest (a.put d (a.eval x)) w) :
    wpList P ops Q ({ dst := d, op := .assign x, type := ty, pos := pos, after := aft, guard := none } :: rest) a w := step rfl rfl h
theorem call {d : Option Tmp} {f : FuncId} {xs : Array Operand} {ts : Array TypeId} {ty : TypeId} {pos : String} {aft : Array Edge} (he : Enters P f)
    (h : Calls P f (xs.map a.eval) w fun e w' => ∃ v, e = .returned v ∧ wpList P ops Q rest (a.put d v) w') :
    wpList P ops Q ({ dst := d, op := .call { callee := .value (.func f), args := xs, argTypes := ts }, type := ty, pos := pos, after := aft, guard := none } :: rest) a w := by
  unfold wpList
  rw [if_pos (by simp [Region.wanted])]
  left
  unfold Oper.wp
  have hr : (execOp a.eval { dst := d, op := .call { callee := .value (.func f), args := xs, argTypes := ts }, type := ty, pos := pos, after := aft, guard := none }).run P w = .ok (.enter f (xs.map a.eval)) w := by
    simp [execOp, go_sem]
    exact he _ _
  rw [hr]
  exact h.mono fun e w' hh => by obtain ⟨v, rfl, hh⟩ := hh; exact hh
theorem load {d : Option Tmp} {x : Operand} {t ty : TypeId} {pos : String} {aft : Array Edge} {p : Addr} {k : IntKind} {n : Int} (ht : P.underlying t = some (.int k)) (hx : a.eval x = .pointer (some p)) (hc : w.cell? p = some (.int k n)) (h : wpList P ops Q rest (a.put d (.int k n)) w) :
    wpList P ops Q ({ dst := d, op := .load t x, type := ty, pos := pos, after := aft, guard := none } :: rest) a w := by
  refine step rfl ?_ h
  simp only [execOp, hx]
  simp [go_sem, run_isAgg_plain ht rfl, hc]
theorem eqlInt {d : Option Tmp} {x y : Operand} {t t2 ty : TypeId} {pos : String} {aft : Array Edge} {k : IntKind} {m n : Int} (ht : P.underlying t = some (.int k)) (hx : a.eval x = .int k m) (hy : a.eval y = .int k n) (h : wpList P ops Q rest (a.put d (.bool (m == n))) w) :
    wpList P ops Q ({ dst := d, op := .binOp .eql t x y t2, type := ty, pos := pos, after := aft, guard := none } :: rest) a w := by
  refine step rfl ?_ h
  simp only [execOp, hx, hy]
  simp [go_sem, run_underlying ht, ht]
theorem addInt {d : Option Tmp} {x y : Operand} {t t2 ty : TypeId} {pos : String} {aft : Array Edge} {k : IntKind} {m n : Int} (ht : P.underlying t = some (.int k)) (hx : a.eval x = .int k m) (hy : a.eval y = .int k n) (h : wpList P ops Q rest (a.put d (.int k (k.wrap (m + n)))) w) :
    wpList P ops Q ({ dst := d, op := .binOp .add t x y t2, type := ty, pos := pos, after := aft, guard := none } :: rest) a w := by
  refine step rfl ?_ h
  simp only [execOp, hx, hy]
  simp [go_sem, run_underlying ht, ht]

/-! ### of this program: the pieces that the encoder's rounds are made of -/
end Go.Proofs.YtiaokohnibkmbaaDoor.Fr
namespace Go.Proofs.YtiaokohnibkmbaaDoor.Enc
open Go
/-- A piece of a function's code. -/
def piece : List Nat → Code → Code
  | [], c => c
  | 0 :: p, .seq a _ => piece p a
  | 1 :: p, .seq _ b => piece p b
  | 0 :: p, .cond _ a _ => piece p a
  | 1 :: p, .cond _ _ b => piece p b
  | _ :: p, .block _ c => piece p c
  | _ :: p, .loop c => piece p c
  | _, _ => .skip
end Go.Proofs.YtiaokohnibkmbaaDoor.Enc
namespace Go.Proofs.YtiaokohnibkmbaaDoor.Fr
open Go Go.RowKit
set_option linter.unusedVariables false
set_option linter.unusedSimpArgs false
/-! ### further operations, over frames that are not written out -/
section
variable {P : Program} {a : Act} {w : World} {x y z : Operand} {d : Option Tmp} {t t2 ty : TypeId} {pos : String} {aft : Array Edge} {g : Option (Nat × Bool)}
theorem run_eqls {s1 s2 : ByteArray} (ht : P.underlying t = some .string) (hx : a.eval x = .string s1) (hy : a.eval y = .string s2) :
    (execOp a.eval { dst := d, op := .binOp .eql t x y t2, type := ty, pos := pos, after := aft, guard := g }).run P w = .ok (.value (.bool (s1.toList == s2.toList))) w := by
  simp only [execOp, hx, hy]
  simp [go_sem, run_underlying ht, ht]
theorem run_neqs {s1 s2 : ByteArray} (ht : P.underlying t = some .string) (hx : a.eval x = .string s1) (hy : a.eval y = .string s2) :
    (execOp a.eval { dst := d, op := .binOp .neq t x y t2, type := ty, pos := pos, after := aft, guard := g }).run P w = .ok (.value (.bool (s1.toList != s2.toList))) w := by
  simp only [execOp, hx, hy]
  simp [go_sem, run_underlying ht, ht]
  cases h : (s1.toList == s2.toList) <;> simp [bne, h]
theorem run_eqli {k : IntKind} {m n : Int} (ht : P.underlying t = some (.int k)) (hx : a.eval x = .int k m) (hy : a.eval y = .int k n) :
    (execOp a.eval { dst := d, op := .binOp .eql t x y t2, type := ty, pos := pos, after := aft, guard := g }).run P w = .ok (.value (.bool (m == n))) w := by
  simp only [execOp, hx, hy]
  simp [go_sem, run_underlying ht, ht]
theorem run_addi {k : IntKind} {m n : Int} (ht : P.underlying t = some (.int k)) (hx : a.eval x = .int k m) (hy : a.eval y = .int k n) :
    (execOp a.eval { dst := d, op := .binOp .add t x y t2, type := ty, pos := pos, after := aft, guard := g }).run P w = .ok (.value (.int k (k.wrap (m + n)))) w := by
  simp only [execOp, hx, hy]
  simp [go_sem, run_underlying ht, ht]
theorem run_subi {k : IntKind} {m n : Int} (ht : P.underlying t = some (.int k)) (hx : a.eval x = .int k m) (hy : a.eval y = .int k n) :
    (execOp a.eval { dst := d, op := .binOp .sub t x y t2, type := ty, pos := pos, after := aft, guard := g }).run P w = .ok (.value (.int k (k.wrap (m - n)))) w := by
  simp only [execOp, hx, hy]
  simp [go_sem, run_underlying ht, ht]
theorem run_len {s : ByteArray} (ht : P.underlying t = some .string) (hx : a.eval x = .string s) :
    (execOp a.eval { dst := d, op := .call { callee := .builtin .len, args := #[x], argTypes := #[t] }, type := ty, pos := pos, after := aft, guard := g }).run P w = .ok (.value (.int .i64 s.size)) w := by
  simp only [execOp, resolve, show (#[x]).map a.eval = #[Value.string s] from by simp only [List.map_toArray, List.map_cons, List.map_nil, hx]]
  simp [go_sem, ht]
theorem run_extract {vs : Array Value} {i : Nat} {v : Value} (hx : a.eval x = .tuple vs) (hv : vs[i]? = some v) :
    (execOp a.eval { dst := d, op := .extract x i, type := ty, pos := pos, after := aft, guard := g }).run P w = .ok (.value v) w := by
  simp only [execOp, hx]
  simp [go_sem, hv]
theorem run_from {s : ByteArray} {i : Nat} (ht : P.underlying t = some .string) (hx : a.eval x = .string s) (hy : a.eval y = .int .i64 i) (hi : i ≤ s.size) :
    (execOp a.eval { dst := d, op := .slice t x (some y) none none, type := ty, pos := pos, after := aft, guard := g }).run P w = .ok (.value (.string (s.extract i s.size))) w := by
  simp only [execOp, hx, hy, Option.map_some, Option.map_none]
  simp [go_sem, ht, hi]
theorem run_to {s : ByteArray} {i : Nat} (ht : P.underlying t = some .string) (hx : a.eval x = .string s) (hy : a.eval y = .int .i64 i) (hi : i ≤ s.size) :
    (execOp a.eval { dst := d, op := .slice t x none (some y) none, type := ty, pos := pos, after := aft, guard := g }).run P w = .ok (.value (.string (s.extract 0 i))) w := by
  simp only [execOp, hx, hy, Option.map_some, Option.map_none]
  simp [go_sem, ht, hi]
theorem run_sub {s : ByteArray} {i j : Nat} (ht : P.underlying t = some .string) (hx : a.eval x = .string s) (hy : a.eval y = .int .i64 i) (hz : a.eval z = .int .i64 j) (hi : i ≤ j) (hj : j ≤ s.size) :
    (execOp a.eval { dst := d, op := .slice t x (some y) (some z) none, type := ty, pos := pos, after := aft, guard := g }).run P w = .ok (.value (.string (s.extract i j))) w := by
  simp only [execOp, hx, hy, hz, Option.map_some, Option.map_none]
  simp [go_sem, ht, hi, hj]
theorem run_index {s : ByteArray} {i : Nat} (ht : P.underlying t = some .string) (hx : a.eval x = .string s) (hy : a.eval y = .int .i64 i) (hi : i < s.size) :
    (execOp a.eval { dst := d, op := .index t x y, type := ty, pos := pos, after := aft, guard := g }).run P w = .ok (.value (.int .u8 (s[i].toNat : Int))) w := by
  simp only [execOp, hx, hy]
  simp [go_sem, ht, hi]
theorem run_box {k : IntKind} {n : Int} (ht : P.underlying t = some (.int k)) (hx : a.eval x = .int k n) :
    (execOp a.eval { dst := d, op := .box t x, type := ty, pos := pos, after := aft, guard := g }).run P w = .ok (.value (.pointer (some ⟨w.heap.size, 0, none⟩))) (w.alloc (.cells #[.int k n] t)) := by
  simp only [execOp, hx]
  simp [go_sem, ht]
theorem run_mk {v : Value} {t' : TypeId} (ht : P.underlying t = some (.pointer t')) (hx : a.eval x = v) :
    (execOp a.eval { dst := d, op := .makeInterface t x, type := ty, pos := pos, after := aft, guard := g }).run P w = .ok (.value (.iface t v)) w := by
  simp only [execOp, hx]
  simp [go_sem, Instr.makeInterface, run_underlying ht]
theorem run_range {s : ByteArray} (ht : P.underlying t = some .string) (hx : a.eval x = .string s) :
    (execOp a.eval { dst := d, op := .range t x, type := ty, pos := pos, after := aft, guard := g }).run P w = .ok (.value (.pointer (some ⟨w.heap.size, 0, none⟩))) (w.alloc (.stringIter s 0)) := by
  simp only [execOp, hx]
  simp [go_sem, ht]
  rfl
end
end Go.Proofs.YtiaokohnibkmbaaDoor.Fr
