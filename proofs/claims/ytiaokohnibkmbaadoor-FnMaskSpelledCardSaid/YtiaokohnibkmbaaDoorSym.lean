import Derived.Test.YtiaokohnibkmbaaDoorProg
import Derived.Below
import Derived.Deep.Draws
import Derived.Deep.AppendLies
import Derived.Maps.AppendAt
import Derived.OwnWalk
import Derived.Laws.BytesArg
import Derived.Laws.MakeOwn
import Derived.Laws.OwnMore
import Derived.Deep.OwnRows
import Derived.Tactics
import Derived.Lib.ConvBytes
import Derived.Laws.Slices
import Derived.WalkKit
import Derived.KernelRfl
import Derived.RowKit3
import Derived.Deep.LoopGhost
import Derived.Deep.QuietTactic
import Derived.BigQuiet
import Derived.WideLaws
import Derived.Deep.DeepCutAuto
import Derived.Deep.CutBlock
import Derived.Deep.RegionHeld3
import Derived.Laws.Rows
import Derived.Lib.AppendStr
import Derived.ArgAppend
import Derived.Laws.IdiomCopy
import Derived.OrdersHeld
import Derived.Laws.BitsLemmas
import Derived.RowKit
import Derived.Lib.Hide
import Derived.Test.YtiaokohnibkmbaaDoorWWords
import Derived.Test.YtiaokohnibkmbaaDoorWLast
import Derived.Test.YtiaokohnibkmbaaDoorWTab
import Derived.Test.YtiaokohnibkmbaaDoorWFour
import Derived.Test.YtiaokohnibkmbaaDoorWQPut
import Derived.Test.YtiaokohnibkmbaaDoorWApart
import Derived.Test.YtiaokohnibkmbaaDoorWArr
import Derived.Test.YtiaokohnibkmbaaDoorWZeros
import Derived.Test.YtiaokohnibkmbaaDoorWFoot
import Derived.Test.YtiaokohnibkmbaaDoorWKept
import Derived.Test.YtiaokohnibkmbaaDoorWShare
import Derived.Test.YtiaokohnibkmbaaDoorWN
import Derived.Test.YtiaokohnibkmbaaDoorWFootNe
import Derived.Test.YtiaokohnibkmbaaDoorWAt
import Derived.Test.YtiaokohnibkmbaaDoorWEqStruct
import Derived.Test.YtiaokohnibkmbaaDoorWRepsOne
import Derived.Test.YtiaokohnibkmbaaDoorWInv
import Derived.Test.YtiaokohnibkmbaaDoorWInvWords
import Derived.Test.YtiaokohnibkmbaaDoorWGuard
import Derived.Test.YtiaokohnibkmbaaDoorWNEv
import Derived.Test.YtiaokohnibkmbaaDoorWMore
import Derived.Test.YtiaokohnibkmbaaDoorFr
namespace Go.Proofs.YtiaokohnibkmbaaDoor.Sym
open Go Go.RowKit Go.Proofs.YtiaokohnibkmbaaDoorW.PrintWords Go.Proofs.YtiaokohnibkmbaaDoorW.PrintLast Go.Proofs.YtiaokohnibkmbaaDoorW.PrintMore
set_option linter.unusedVariables false
set_option linter.unusedSimpArgs false
/-! ### frames by the list of their slots: a walk whose steps are single refinements -/
abbrev Slots := List (Nat × Value)
def lk : Slots → Nat → Option Value
  | [], _ => none
  | p :: t, s => bif Nat.beq p.1 s then some p.2 else lk t s
def ev (l : Slots) : Operand → Option Value
  | .tmp s => lk l s
  | .const v => some v
  | .global g => some (.pointer (some ⟨g, 0, none⟩))
  | .func f => some (.func (.func f) #[] #[])
structure Fm (N : Nat) (l : Slots) (a : Act) : Prop where
  size : a.tmps.size = N
  defers : a.defers = []
  slot : ∀ s v, lk l s = some v → a.eval (.tmp s) = v
variable {P : Program} {ops : Array Oper} {Q : Exit → Act → World → Prop} {a : Act} {w w' : World} {rest : List Oper} {o : Oper} {N d : Nat} {l : Slots} {v : Value}
theorem Fm.ev (h : Fm N l a) {x : Operand} (hx : ev l x = some v) : a.eval x = v := by
  cases x with
  | tmp s => exact h.slot s v hx
  | const c => exact Option.some.inj hx
  | global g => exact Option.some.inj hx
  | func f => exact Option.some.inj hx
theorem beq_ne {x y : Nat} (h : ¬ x = y) : Nat.beq x y = false := by
  cases hh : Nat.beq x y with
  | false => rfl
  | true => exact absurd (Nat.eq_of_beq_eq_true hh) h
theorem Fm.put (h : Fm N l a) (hd : d < N) (v : Value) : Fm N ((d, v) :: l) (a.put (some d) v) := by
  refine ⟨(Fr.size_put _ _ _).trans h.size, (Fr.defers_put _ _ _).trans h.defers, fun s u hs => ?_⟩
  unfold lk at hs
  by_cases e : d = s
  · subst e
    rw [show Nat.beq d d = true from by simp] at hs
    obtain rfl := Option.some.inj hs
    exact Fr.eval_same _ _ _ (by rw [h.size]; exact hd)
  · rw [beq_ne e] at hs
    rw [Fr.eval_other _ _ _ _ (Ne.symm e)]
    exact h.slot s u hs
def pickl (l : Slots) : List Nat → Slots
  | [] => []
  | k :: ks => match lk l k with
    | some v => (k, v) :: pickl l ks
    | none => pickl l ks
theorem lk_pickl (l : Slots) : ∀ (ks : List Nat) (s : Nat) (v : Value), lk (pickl l ks) s = some v → lk l s = some v
  | [], s, v, h => by cases h
  | k :: ks, s, v, h => by
    unfold pickl at h
    cases e : lk l k with
    | none => rw [e] at h; exact lk_pickl l ks s v h
    | some u =>
      rw [e] at h
      simp only at h
      unfold lk at h
      by_cases hk : k = s
      · subst hk
        rw [show Nat.beq k k = true from by simp] at h
        rw [e]; exact h
      · rw [beq_ne hk] at h
        exact lk_pickl l ks s v h
theorem Fm.pick (h : Fm N l a) (ks : List Nat) {l' : Slots} (e : pickl l ks = l') : Fm N l' a := by
  subst e
  exact ⟨h.size, h.defers, fun s v hs => h.slot s v (lk_pickl l ks s v hs)⟩
/-- What a function's frame begins with. -/
theorem Fm.start (args : Array Value) (n : Nat) (l : Slots) (hN : args.size + (n - args.size) = N) (hl : ∀ s v, lk l s = some v → args[s]? = some v) : Fm N l ⟨args ++ Array.replicate (n - args.size) undef, []⟩ := by
  refine ⟨by simp; exact hN, rfl, fun s v hs => ?_⟩
  have h := hl s v hs
  have hlt := (Array.getElem?_eq_some_iff.1 h).1
  simp [Act.eval, Array.getElem?_append, hlt, h]
  have := (Array.getElem?_eq_some_iff.1 h).2
  exact this
/-! ### an operation's value -/
def Ex (P : Program) (l : Slots) (w : World) (o : Oper) (v : Value) (w' : World) : Prop := ∀ N a, Fm N l a → (execOp a.eval o).run P w = .ok (.value v) w'
theorem wanted_none (hg : o.guard = none) {y : Nat → Option Bool} : Region.wanted o y = true := by simp [Region.wanted, hg]
theorem wanted_if {j e : Nat} {b c : Bool} (h : Fm N l a) (hg : o.guard = some (j, b)) (hj : (ops[j]?).bind (·.dst) = some e) (hl : lk l e = some (.bool c)) (he : e < N) : Region.wanted o (yielded ops a.tmps) = (c == b) := by
  have h1 := h.slot e _ hl
  have h2 : a.tmps[e]? = some (.bool c) := by
    have hs : e < a.tmps.size := by rw [h.size]; exact he
    simp only [Act.eval, Array.getD, hs, dite_true] at h1
    rw [Array.getElem?_eq_getElem hs]
    exact congrArg some h1
  have h3 : yielded ops a.tmps j = some c := by simp [yielded, hj, h2]
  simp [Region.wanted, hg, h3]
theorem step (h : Fm N l a) (hd : o.dst = some d) (hN : d < N) (hw : Region.wanted o (yielded ops a.tmps) = true) (hx : Ex P l w o v w') (H : ∀ a', Fm N ((d, v) :: l) a' → wpList P ops Q rest a' w') : wpList P ops Q (o :: rest) a w := by
  unfold wpList
  rw [if_pos hw]
  left
  unfold Oper.wp
  rw [hx N a h]
  show wpList P ops Q rest (a.put o.dst v) w'
  rw [hd]
  exact H _ (h.put hN v)
theorem st (h : Fm N l a) (hd : o.dst = some d) (hN : d < N) (hg : o.guard = none) (hx : Ex P l w o v w') (H : ∀ a', Fm N ((d, v) :: l) a' → wpList P ops Q rest a' w') : wpList P ops Q (o :: rest) a w := step h hd hN (wanted_none hg) hx H
theorem off (h : Fm N l a) (hd : o.dst = some d) (hN : d < N) (hw : Region.wanted o (yielded ops a.tmps) = false) (H : ∀ a', Fm N ((d, undef) :: l) a' → wpList P ops Q rest a' w) : wpList P ops Q (o :: rest) a w := by
  unfold wpList
  rw [if_neg (by rw [hw]; decide), hd]
  exact H _ (h.put hN undef)
theorem effect (h : Fm N l a) (hd : o.dst = none) (hg : o.guard = none) (hx : (execOp a.eval o).run P w = .ok .skip w') (H : wpList P ops Q rest a w') : wpList P ops Q (o :: rest) a w := by
  unfold wpList
  rw [if_pos (wanted_none hg)]
  left
  unfold Oper.wp
  rw [hx]
  show wpList P ops Q rest (a.put o.dst undef) w'
  rw [hd]
  exact H
/-- A call of a Go function. -/
theorem call (h : Fm N l a) {f : FuncId} {xs : Array Operand} {ts : Array TypeId} {vs : Array Value} (hd : o.dst = some d) (hN : d < N) (hw : Region.wanted o (yielded ops a.tmps) = true) (ho : o.op = .call { callee := .value (.func f), args := xs, argTypes := ts }) (he : Enters P f) (hx : ∀ a : Act, Fm N l a → xs.map a.eval = vs)
    (H : Calls P f vs w fun e w' => ∃ v, e = .returned v ∧ ∀ a', Fm N ((d, v) :: l) a' → wpList P ops Q rest a' w') : wpList P ops Q (o :: rest) a w := by
  unfold wpList
  rw [if_pos hw]
  left
  unfold Oper.wp
  have hr : (execOp a.eval o).run P w = .ok (.enter f (xs.map a.eval)) w := by
    unfold execOp
    rw [ho]
    simp [go_sem]
    exact he _ _
  rw [hr, hx a h]
  refine H.mono fun e w' hh => ?_
  obtain ⟨v, rfl, hh⟩ := hh
  show wpList P ops Q rest (a.put o.dst v) w'
  rw [hd]
  exact hh _ (h.put hN v)
/-- A call of a closure. -/
theorem callc (h : Fm N l a) {f : FuncId} {x : Operand} {xs : Array Operand} {ts : Array TypeId} {vs cs : Array Value} (hd : o.dst = some d) (hN : d < N) (hw : Region.wanted o (yielded ops a.tmps) = true) (ho : o.op = .call { callee := .value x, args := xs, argTypes := ts }) (hf : ev l x = some (.func (.func f) #[] cs)) (he : Enters P f) (hx : ∀ a : Act, Fm N l a → xs.map a.eval = vs)
    (H : Calls P f (vs ++ cs) w fun e w' => ∃ v, e = .returned v ∧ ∀ a', Fm N ((d, v) :: l) a' → wpList P ops Q rest a' w') : wpList P ops Q (o :: rest) a w := by
  unfold wpList
  rw [if_pos hw]
  left
  unfold Oper.wp
  have hr : (execOp a.eval o).run P w = .ok (.enter f (xs.map a.eval ++ cs)) w := by
    unfold execOp
    rw [ho]
    show (do let d ← Deferred.ofValue (a.eval x) (xs.map a.eval); invoke d.target d.args : Sem Next).run P w = _
    rw [h.ev hf]
    simp [go_sem, Deferred.ofValue]
    exact he _ _
  rw [hr, hx a h]
  refine H.mono fun e w' hh => ?_
  obtain ⟨v, rfl, hh⟩ := hh
  show wpList P ops Q rest (a.put o.dst v) w'
  rw [hd]
  exact hh _ (h.put hN v)
/-! #### the same in a region that draws and is quiet -/
theorem q_step {C : World → Prop} {Q : Act → Prop} (h : Fm N l a) (hd : o.dst = some d) (hN : d < N) (hw : Region.wanted o (yielded ops a.tmps) = true) (hx : ∀ w, C w → Ex P l w o v w) (H : ∀ a', Fm N ((d, v) :: l) a' → wpQuiet P ops C Q rest a') : wpQuiet P ops C Q (o :: rest) a := by
  unfold wpQuiet
  rw [if_pos hw]
  refine ⟨v, fun w hw => ?_, hd ▸ H _ (h.put hN v)⟩
  unfold Oper.quietAt
  rw [hx w hw N a h]
  exact ⟨rfl, rfl⟩
theorem q_off {C : World → Prop} {Q : Act → Prop} (h : Fm N l a) (hd : o.dst = some d) (hN : d < N) (hw : Region.wanted o (yielded ops a.tmps) = false) (H : ∀ a', Fm N ((d, undef) :: l) a' → wpQuiet P ops C Q rest a') : wpQuiet P ops C Q (o :: rest) a := by
  unfold wpQuiet
  rw [if_neg (by rw [hw]; decide), hd]
  exact H _ (h.put hN undef)
theorem q_call {Q : Act → Prop} {w0 : World} (h : Fm N l a) {f : FuncId} {xs : Array Operand} {ts : Array TypeId} {vs : Array Value} (hd : o.dst = some d) (hN : d < N) (hw : Region.wanted o (yielded ops a.tmps) = true) (ho : o.op = .call { callee := .value (.func f), args := xs, argTypes := ts }) (he : Enters P f) (hx : ∀ a : Act, Fm N l a → xs.map a.eval = vs)
    (hc : ∀ w, Calls P f vs w fun e w' => e = .returned v ∧ ∃ n, w' = w.drewN n) (H : ∀ a', Fm N ((d, v) :: l) a' → wpQuiet P ops (fun w' => ∃ n, w' = w0.drewN n) Q rest a') : wpQuiet P ops (fun w' => ∃ n, w' = w0.drewN n) Q (o :: rest) a := by
  unfold wpQuiet
  rw [if_pos hw]
  refine ⟨v, ?_, hd ▸ H _ (h.put hN v)⟩
  rintro w ⟨n, rfl⟩
  unfold Oper.quietAt
  have hr : (execOp a.eval o).run P (w0.drewN n) = .ok (.enter f (xs.map a.eval)) (w0.drewN n) := by
    unfold execOp
    rw [ho]
    simp [go_sem]
    exact he _ _
  rw [hr, hx a h]
  refine ⟨rfl, (hc _).mono ?_⟩
  rintro e w' ⟨rfl, m, rfl⟩
  exact ⟨rfl, n + m, by rw [World.drewN_drewN]⟩
end Go.Proofs.YtiaokohnibkmbaaDoor.Sym
