/- The frames that are not written out, the shapes of the code, and the predicates. -/
import Derived.Test.YtlgoghonnnobfaaDoorProg
import Derived.Calls
import Derived.Tactics
import Derived.WalkKit
import Derived.Lib.Hide
import Derived.WalkSmall
import Derived.Laws.Entries
import Derived.Laws.Concat
import Derived.StringKeys
import Derived.Shelf.Abstract
import Derived.Lib.RuneBytes
import Derived.Laws.Strings2
import Derived.Laws.Strings3
import Derived.Lib.OthersKept
import Derived.Lib.BufferKept
import Derived.Lib.BufferOld
import Derived.WalkLawsBesides
import Derived.Lib.RuneCountTail
import Derived.Lib.FieldsU
import Derived.Lib.TrimU
import Derived.Lib.QuoteLoop
namespace Go.Proofs.YtlgoghonnnobfaaDoor.Fr
open Go Go.RowKit
set_option linter.unusedVariables false
set_option linter.unusedSimpArgs false

/-! ### frames that are not written out -/
variable {P : Program} {ops : Array Oper} {Q : Exit → Act → World → Prop} {a : Act} {w w' : World} {rest : List Oper} {o : Oper}
theorem size_put (a : Act) (d : Option Tmp) (v : Value) : (a.put d v).tmps.size = a.tmps.size := by cases d <;> simp [Act.put]
theorem defers_put (a : Act) (d : Option Tmp) (v : Value) : (a.put d v).defers = a.defers := by cases d <;> simp [Act.put]
theorem eval_same (a : Act) (d : Nat) (v : Value) (h : d < a.tmps.size) : (a.put (some d) v).eval (.tmp d) = v := by
  simp [Act.put, Act.eval, Array.getD, h]
theorem eval_other (a : Act) (d s : Nat) (v : Value) (h : s ≠ d) : (a.put (some d) v).eval (.tmp s) = a.eval (.tmp s) := by
  simp only [Act.put, Act.eval, Array.getD_eq_getD_getElem?]
  rw [Array.getElem?_setIfInBounds_ne (Ne.symm h)]
theorem eval_const (a : Act) (v : Value) : a.eval (.const v) = v := rfl
/-- A frame that differs in slots from lo to hi alone. -/
structure Same (lo hi : Nat) (a a' : Act) : Prop where
  size : a'.tmps.size = a.tmps.size
  slot : ∀ s, (s < lo ∨ hi < s) → a'.eval (.tmp s) = a.eval (.tmp s)
  defers : a'.defers = a.defers
theorem Same.refl {lo hi : Nat} (a : Act) : Same lo hi a a := ⟨rfl, fun _ _ => rfl, rfl⟩
theorem Same.trans {lo hi : Nat} {a b c : Act} (h : Same lo hi a b) (h' : Same lo hi b c) : Same lo hi a c :=
  ⟨h'.size.trans h.size, fun s hs => (h'.slot s hs).trans (h.slot s hs), h'.defers.trans h.defers⟩
theorem Same.put {lo hi : Nat} {a b : Act} (h : Same lo hi a b) (d : Nat) (v : Value) (h1 : lo ≤ d) (h2 : d ≤ hi) : Same lo hi a (b.put (some d) v) :=
  ⟨(size_put _ _ _).trans h.size, fun s hs => (eval_other _ _ _ _ (by omega)).trans (h.slot s hs), (defers_put _ _ _).trans h.defers⟩

theorem step {v : Value} (hg : o.guard = none) (hr : (execOp a.eval o).run P w = .ok (.value v) w') (h : wpList P ops Q rest (a.put o.dst v) w') : wpList P ops Q (o :: rest) a w := by
  unfold wpList
  rw [if_pos (by simp [Region.wanted, hg])]
  left
  unfold Oper.wp
  rw [hr]
  exact h
theorem move {d : Option Tmp} {x : Operand} {ty : TypeId} {pos : String} {aft : Array Edge} (h : wpList P ops Q rest (a.put d (a.eval x)) w) :
    wpList P ops Q ({ dst := d, op := .move x, type := ty, pos := pos, after := aft, guard := none } :: rest) a w := step rfl rfl h
theorem assign {d : Option Tmp} {x : Operand} {ty : TypeId} {pos : String} {aft : Array Edge} (h : wpList P ops Q rest (a.put d (a.eval x)) w) :
    wpList P ops Q ({ dst := d, op := .assign x, type := ty, pos := pos, after := aft, guard := none } :: rest) a w := step rfl rfl h
theorem call {d : Option Tmp} {f : FuncId} {xs : Array Operand} {ts : Array TypeId} {ty : TypeId} {pos : String} {aft : Array Edge} (he : Enters P f)
    (h : Calls P f (xs.map a.eval) w fun e w' => ∃ v, e = .returned v ∧ wpList P ops Q rest (a.put d v) w') :
    wpList P ops Q ({ dst := d, op := .call { callee := .value (.func f), args := xs, argTypes := ts }, type := ty, pos := pos, after := aft, guard := none } :: rest) a w := by
  unfold wpList
  rw [if_pos (by simp [Region.wanted])]
  left
  unfold Oper.wp
  have hr : (execOp a.eval { dst := d, op := .call { callee := .value (.func f), args := xs, argTypes := ts }, type := ty, pos := pos, after := aft, guard := none }).run P w = .ok (.enter f (xs.map a.eval)) w := by
    simp [execOp, go_sem]
    exact he _ _
  rw [hr]
  exact h.mono fun e w' hh => by obtain ⟨v, rfl, hh⟩ := hh; exact hh
theorem load {d : Option Tmp} {x : Operand} {t ty : TypeId} {pos : String} {aft : Array Edge} {p : Addr} {k : IntKind} {n : Int} (ht : P.underlying t = some (.int k)) (hx : a.eval x = .pointer (some p)) (hc : w.cell? p = some (.int k n)) (h : wpList P ops Q rest (a.put d (.int k n)) w) :
    wpList P ops Q ({ dst := d, op := .load t x, type := ty, pos := pos, after := aft, guard := none } :: rest) a w := by
  refine step rfl ?_ h
  simp only [execOp, hx]
  simp [go_sem, run_isAgg_plain ht rfl, hc]
theorem eqlInt {d : Option Tmp} {x y : Operand} {t t2 ty : TypeId} {pos : String} {aft : Array Edge} {k : IntKind} {m n : Int} (ht : P.underlying t = some (.int k)) (hx : a.eval x = .int k m) (hy : a.eval y = .int k n) (h : wpList P ops Q rest (a.put d (.bool (m == n))) w) :
    wpList P ops Q ({ dst := d, op := .binOp .eql t x y t2, type := ty, pos := pos, after := aft, guard := none } :: rest) a w := by
  refine step rfl ?_ h
  simp only [execOp, hx, hy]
  simp [go_sem, run_underlying ht, ht]
theorem addInt {d : Option Tmp} {x y : Operand} {t t2 ty : TypeId} {pos : String} {aft : Array Edge} {k : IntKind} {m n : Int} (ht : P.underlying t = some (.int k)) (hx : a.eval x = .int k m) (hy : a.eval y = .int k n) (h : wpList P ops Q rest (a.put d (.int k (k.wrap (m + n)))) w) :
    wpList P ops Q ({ dst := d, op := .binOp .add t x y t2, type := ty, pos := pos, after := aft, guard := none } :: rest) a w := by
  refine step rfl ?_ h
  simp only [execOp, hx, hy]
  simp [go_sem, run_underlying ht, ht]

/-! ### of this program: the pieces that the encoder's rounds are made of -/
theorem enters40 : Enters Tryd.prog 40 := enters_of Tryd.func40 (by kernel_rfl) rfl
theorem enters47 : Enters Tryd.prog 47 := enters_of Tryd.func47 (by kernel_rfl) rfl
/-- Has a mask a bit. -/
def hb (m f : Int) : Bool := Go.bits .and .u64 m f != 0
theorem has_any (m f : Int) (w : World) : Calls Tryd.prog 40 #[.int .u64 m, .int .u64 f] w fun e w' => e = .returned (.bool (hb m f)) ∧ w = w' := by
  go_enter Tryd.func40, Tryd.ntmps40
  go_wp2
  go_ret
  exact ⟨rfl, rfl⟩
section
variable {Q : Exit → Act → World → Prop} {a : Act} {w : World}
/-- mask.Has(f): the mask in a box of its own. -/
theorem r_has {id s : Nat} {m f : Int} {p1 p2 : String} {pm : Addr} (hs : s + 1 < a.tmps.size) (h2 : a.eval (.tmp 2) = .pointer (some pm)) (hc : w.cell? pm = some (.int .u64 m))
    (h : Q .normal ((a.put (some s) (.int .u64 m)).put (some (s + 1)) (.bool (hb m f))) w) :
    (Code.region id #[{ dst := some s, op := .load 39 (.tmp 2), type := 39, pos := p1, after := #[], guard := none }, { dst := some (s + 1), op := .call { callee := .value (.func 40), args := #[.tmp s, .const (.int .u64 f)], argTypes := #[39, 39] }, type := 4, pos := p2, after := #[{ on := 0, ground := .data }], guard := none }] false).wp Tryd.prog Q a w := by
  refine wp_region_lit ?_
  refine load Tryd.underlying39 h2 hc ?_
  refine call enters40 ?_
  have e : (#[Operand.tmp s, .const (.int .u64 f)]).map (a.put (some s) (.int .u64 m)).eval = #[.int .u64 m, .int .u64 f] := by
    simp [eval_same _ _ _ (show s < a.tmps.size by omega), eval_const]
  rw [e]
  refine (has_any m f w).mono ?_
  rintro e w' ⟨rfl, rfl⟩
  exact ⟨_, rfl, h⟩
/-- A test of a rune. -/
theorem r_eq {id x s t : Nat} {r c : Int} {p1 p2 : String} (hs : s < a.tmps.size) (hx : a.eval (.tmp x) = .int .i32 r)
    (h : Q .normal ((a.put (some s) (.bool (r == c))).put (some t) (.bool (r == c))) w) :
    (Code.region id #[{ dst := some s, op := .binOp .eql 21 (.tmp x) (.const (.int .i32 c)) 21, type := 4, pos := p1, after := #[], guard := none }, { dst := some t, op := .assign (.tmp s), type := 4, pos := p2, after := #[{ on := 0, ground := .data }], guard := none }] false).wp Tryd.prog Q a w := by
  refine wp_region_lit ?_
  refine eqlInt Tryd.underlying21 hx rfl ?_
  refine assign ?_
  rw [eval_same _ _ _ hs]
  exact h
theorem r_move {id x s : Nat} {p : String} {ty : TypeId} (h : Q .normal (a.put (some s) (a.eval (.tmp x))) w) :
    (Code.region id #[{ dst := some s, op := .move (.tmp x), type := ty, pos := p, after := #[], guard := none }] false).wp Tryd.prog Q a w := wp_region_lit (move h)
end
theorem len8219 : (Lib.encodeRune 8219).length = 3 := by decide
/-- What the rounds keep of the world, with what the buffer holds (its writes: within lim). -/
structure Env (lim : Nat) (m : Int) (pm pb : Addr) (I : List UInt8 → World → Prop) : Prop where
  cell : ∀ acc w, I acc w → w.cell? pm = some (.int .u64 m)
  write : ∀ acc w r, acc.length ≤ lim → I acc w → -2147483648 ≤ r → r ≤ 2147483647 → Calls Tryd.prog 47 #[.pointer (some pb), .int .i32 r] w fun e w' => ∃ v, e = .returned v ∧ I (acc ++ Lib.encodeRune r) w'
/-- The frame in a round: the mask's box, the rune, the buffer. -/
structure Ctx (N : Nat) (pm pb : Addr) (r : Int) (a : Act) : Prop where
  size : a.tmps.size = N
  mask : a.eval (.tmp 2) = .pointer (some pm)
  rune : a.eval (.tmp 26) = .int .i32 r
  buf : a.eval (.tmp 24) = .pointer (some pb)
theorem Ctx.same {N lo hi : Nat} {pm pb : Addr} {r : Int} {a a' : Act} (h : Ctx N pm pb r a) (hs : Same lo hi a a') (hlo : 26 < lo) : Ctx N pm pb r a' :=
  ⟨hs.size.trans h.size, (hs.slot 2 (by omega)).trans h.mask, (hs.slot 26 (by omega)).trans h.rune, (hs.slot 24 (by omega)).trans h.buf⟩
section
variable {Q : Exit → Act → World → Prop} {a : Act} {w : World} {N lo hi lim : Nat} {m r : Int} {pm pb : Addr} {I : List UInt8 → World → Prop} {acc : List UInt8}
/-- out.WriteRune(c). -/
theorem r_wconst {id s : Nat} {c : Int} {p : String} (E : Env lim m pm pb I) (hL : acc.length ≤ lim) (hC : Ctx N pm pb r a) (hI : I acc w) (hc0 : -2147483648 ≤ c) (hc1 : c ≤ 2147483647)
    (h : ∀ v w', I (acc ++ Lib.encodeRune c) w' → Q .normal (a.put (some s) v) w') :
    (Code.region id #[{ dst := some s, op := .call { callee := .value (.func 47), args := #[.tmp 24, .const (.int .i32 c)], argTypes := #[56, 21] }, type := 60, pos := p, after := #[], guard := none }] false).wp Tryd.prog Q a w := by
  refine wp_region_lit ?_
  refine call enters47 ?_
  have e : (#[Operand.tmp 24, .const (.int .i32 c)]).map a.eval = #[.pointer (some pb), .int .i32 c] := by simp [hC.buf, eval_const]
  rw [e]
  exact (E.write acc w c hL hI hc0 hc1).mono fun e w' hh => by obtain ⟨v, rfl, h2⟩ := hh; exact ⟨v, rfl, h v w' h2⟩
/-- out.WriteRune(r). -/
theorem r_wmove {id s : Nat} {p1 p2 : String} (E : Env lim m pm pb I) (hL : acc.length ≤ lim) (hC : Ctx N pm pb r a) (hI : I acc w) (hs : 26 < s) (hsN : s < N) (hc0 : -2147483648 ≤ r) (hc1 : r ≤ 2147483647)
    (h : ∀ v w', I (acc ++ Lib.encodeRune r) w' → Q .normal ((a.put (some s) (.int .i32 r)).put (some (s + 1)) v) w') :
    (Code.region id #[{ dst := some s, op := .move (.tmp 26), type := 21, pos := p1, after := #[], guard := none }, { dst := some (s + 1), op := .call { callee := .value (.func 47), args := #[.tmp 24, .tmp s], argTypes := #[56, 21] }, type := 60, pos := p2, after := #[{ on := 0, ground := .data }], guard := none }] false).wp Tryd.prog Q a w := by
  refine wp_region_lit ?_
  refine move ?_
  refine call enters47 ?_
  rw [hC.rune]
  have e : (#[Operand.tmp 24, .tmp s]).map (a.put (some s) (.int .i32 r)).eval = #[.pointer (some pb), .int .i32 r] := by
    simp [eval_same _ _ _ (show s < a.tmps.size by rw [hC.size]; exact hsN), eval_other _ s 24 _ (by omega), hC.buf]
  rw [e]
  exact (E.write acc w r hL hI hc0 hc1).mono fun e w' hh => by obtain ⟨v, rfl, h2⟩ := hh; exact ⟨v, rfl, h v w' h2⟩
/-- out.WriteRune(r + c). -/
theorem r_wadd {id s : Nat} {c : Int} {p1 p2 p3 : String} (E : Env lim m pm pb I) (hL : acc.length ≤ lim) (hC : Ctx N pm pb r a) (hI : I acc w) (hs : 26 < s) (hsN : s + 2 < N)
    (h : ∀ v w', I (acc ++ Lib.encodeRune (IntKind.i32.wrap (r + c))) w' → Q .normal (((a.put (some s) (.int .i32 r)).put (some (s + 1)) (.int .i32 (IntKind.i32.wrap (r + c)))).put (some (s + 2)) v) w') :
    (Code.region id #[{ dst := some s, op := .move (.tmp 26), type := 21, pos := p1, after := #[], guard := none }, { dst := some (s + 1), op := .binOp .add 21 (.tmp s) (.const (.int .i32 c)) 21, type := 21, pos := p2, after := #[{ on := 0, ground := .data }], guard := none }, { dst := some (s + 2), op := .call { callee := .value (.func 47), args := #[.tmp 24, .tmp (s + 1)], argTypes := #[56, 21] }, type := 60, pos := p3, after := #[{ on := 1, ground := .data }], guard := none }] false).wp Tryd.prog Q a w := by
  refine wp_region_lit ?_
  refine move ?_
  rw [hC.rune]
  refine addInt Tryd.underlying21 (eval_same _ _ _ (by rw [hC.size]; omega)) rfl ?_
  refine call enters47 ?_
  have e : (#[Operand.tmp 24, .tmp (s + 1)]).map ((a.put (some s) (.int .i32 r)).put (some (s + 1)) (.int .i32 (IntKind.i32.wrap (r + c)))).eval = #[.pointer (some pb), .int .i32 (IntKind.i32.wrap (r + c))] := by
    simp [eval_same _ _ _ (show s + 1 < (a.put (some s) (.int .i32 r)).tmps.size by rw [size_put, hC.size]; omega), eval_other _ (s + 1) 24 _ (by omega), eval_other _ s 24 _ (by omega), hC.buf]
  rw [e]
  have hw := IntKind.wrap_i32 (r + c)
  exact (E.write acc w _ hL hI (by omega) (by omega)).mono fun e w' hh => by obtain ⟨v, rfl, h2⟩ := hh; exact ⟨v, rfl, h v w' h2⟩
/-- One character and its sign. -/
theorem segA {id bk ex s : Nat} {f c1 c2 off : Int} {p0 p1 p2 p3 p4 p5 p6 p7 p8 p9 p10 p11 p12 : String} (E : Env lim m pm pb I) (hL : acc.length + 4 ≤ lim) (hC : Ctx N pm pb r a) (hI : I acc w) (hr0 : 0 ≤ r) (hr1 : r ≤ 1114111)
    (hlo : 26 < lo) (hs : lo ≤ s) (hsN : s + 12 ≤ hi) (hhi : hi < N) (hne : ex ≠ bk)
    (hn : (hb m f = false ∨ (r ≠ c1 ∧ r ≠ c2)) → ∀ a', Same lo hi a a' → Q .normal a' w)
    (hx1 : hb m f = true → r = c1 → ∀ a' w', Same lo hi a a' → I (acc ++ Lib.encodeRune (IntKind.i32.wrap (r + off))) w' → Q (.exit ex) a' w')
    (hx2 : hb m f = true → r = c2 → ∀ a' w', Same lo hi a a' → I (acc ++ Lib.encodeRune 8219 ++ Lib.encodeRune r) w' → Q (.exit ex) a' w') :
    ((Code.region id #[{ dst := some s, op := .load 39 (.tmp 2), type := 39, pos := p0, after := #[], guard := none }, { dst := some (s + 1), op := .call { callee := .value (.func 40), args := #[.tmp s, .const (.int .u64 f)], argTypes := #[39, 39] }, type := 4, pos := p1, after := #[{ on := 0, ground := .data }], guard := none }] false).seq
      (Code.cond (.tmp (s + 1))
        ((Code.region (id + 1) #[{ dst := some (s + 2), op := .move (.tmp 26), type := 21, pos := p2, after := #[], guard := none }] false).seq
          (Code.block bk
            ((Code.region (id + 2) #[{ dst := some (s + 4), op := .binOp .eql 21 (.tmp (s + 2)) (.const (.int .i32 c1)) 21, type := 4, pos := p3, after := #[], guard := none }, { dst := some (s + 3), op := .assign (.tmp (s + 4)), type := 4, pos := p4, after := #[{ on := 0, ground := .data }], guard := none }] false).seq
              (Code.cond (.tmp (s + 3))
                ((Code.region (id + 3) #[{ dst := some (s + 5), op := .move (.tmp 26), type := 21, pos := p5, after := #[], guard := none }, { dst := some (s + 5 + 1), op := .binOp .add 21 (.tmp (s + 5)) (.const (.int .i32 off)) 21, type := 21, pos := p6, after := #[{ on := 0, ground := .data }], guard := none }, { dst := some (s + 5 + 2), op := .call { callee := .value (.func 47), args := #[.tmp 24, .tmp (s + 5 + 1)], argTypes := #[56, 21] }, type := 60, pos := p7, after := #[{ on := 1, ground := .data }], guard := none }] false).seq
                  (Code.exit ex))
                ((Code.region (id + 4) #[{ dst := some (s + 9), op := .binOp .eql 21 (.tmp (s + 2)) (.const (.int .i32 c2)) 21, type := 4, pos := p8, after := #[], guard := none }, { dst := some (s + 8), op := .assign (.tmp (s + 9)), type := 4, pos := p9, after := #[{ on := 0, ground := .data }], guard := none }] false).seq
                  (Code.cond (.tmp (s + 8))
                    ((Code.region (id + 5) #[{ dst := some (s + 10), op := .call { callee := .value (.func 47), args := #[.tmp 24, .const (.int .i32 8219)], argTypes := #[56, 21] }, type := 60, pos := p10, after := #[], guard := none }] false).seq
                      ((Code.region (id + 6) #[{ dst := some (s + 11), op := .move (.tmp 26), type := 21, pos := p11, after := #[], guard := none }, { dst := some (s + 11 + 1), op := .call { callee := .value (.func 47), args := #[.tmp 24, .tmp (s + 11)], argTypes := #[56, 21] }, type := 60, pos := p12, after := #[{ on := 0, ground := .data }], guard := none }] false).seq
                        (Code.exit ex)))
                    Code.skip))))))
        Code.skip)).wp Tryd.prog Q a w := by
  have hN := hC.size
  refine wp_seq (r_has (by omega) hC.mask (E.cell _ _ hI) ?_)
  show Code.wp _ _ _ _ _
  refine wp_cond (eval_same _ _ _ (by rw [size_put]; omega)) ?_
  have s0 : Same lo hi a ((a.put (some s) (.int .u64 m)).put (some (s + 1)) (.bool (hb m f))) := ((Same.refl a).put _ _ (by omega) (by omega)).put _ _ (by omega) (by omega)
  generalize (a.put (some s) (.int .u64 m)).put (some (s + 1)) (.bool (hb m f)) = a1 at s0
  have hC1 := hC.same s0 hlo
  cases hh : hb m f with
  | false => exact wp_skip (hn (.inl hh) _ s0)
  | true =>
    rw [if_pos rfl]
    refine wp_seq (r_move ?_)
    show Code.wp _ _ _ _ _
    rw [hC1.rune]
    have s1 := s0.put (s + 2) (.int .i32 r) (by omega) (by omega)
    have e1 := eval_same a1 (s + 2) (.int .i32 r) (by rw [hC1.size]; omega)
    have hC2 := hC.same s1 hlo
    generalize a1.put (some (s + 2)) (.int .i32 r) = a2 at s1 e1 hC2
    refine wp_block ?_
    refine wp_seq (r_eq (by rw [hC2.size]; omega) e1 ?_)
    show Code.wp _ _ _ _ _
    refine wp_cond (eval_same _ _ _ (by rw [size_put, hC2.size]; omega)) ?_
    have s2 := (s1.put (s + 4) (.bool (r == c1)) (by omega) (by omega)).put (s + 3) (.bool (r == c1)) (by omega) (by omega)
    have e2 : ((a2.put (some (s + 4)) (.bool (r == c1))).put (some (s + 3)) (.bool (r == c1))).eval (.tmp (s + 2)) = .int .i32 r := by
      rw [eval_other _ _ _ _ (by omega), eval_other _ _ _ _ (by omega)]; exact e1
    have hC3 := hC.same s2 hlo
    generalize (a2.put (some (s + 4)) (.bool (r == c1))).put (some (s + 3)) (.bool (r == c1)) = a3 at s2 e2 hC3
    by_cases h1 : r = c1
    · rw [if_pos (by simpa using h1)]
      refine wp_seq (r_wadd E (by omega) hC3 hI (by omega) (by omega) fun v w' hI' => ?_)
      show Code.wp _ _ _ _ _
      refine wp_exit ?_
      have s3 := ((s2.put (s + 5) (.int .i32 r) (by omega) (by omega)).put (s + 5 + 1) (.int .i32 (IntKind.i32.wrap (r + off))) (by omega) (by omega)).put (s + 5 + 2) v (by omega) (by omega)
      simp only [Exit.then, Exit.inBlock, if_neg hne]
      exact hx1 hh h1 _ _ s3 hI'
    · rw [if_neg (by simpa using h1)]
      refine wp_seq (r_eq (by rw [hC3.size]; omega) e2 ?_)
      show Code.wp _ _ _ _ _
      refine wp_cond (eval_same _ _ _ (by rw [size_put, hC3.size]; omega)) ?_
      have s3 := (s2.put (s + 9) (.bool (r == c2)) (by omega) (by omega)).put (s + 8) (.bool (r == c2)) (by omega) (by omega)
      have hC4 := hC.same s3 hlo
      generalize (a3.put (some (s + 9)) (.bool (r == c2))).put (some (s + 8)) (.bool (r == c2)) = a4 at s3 hC4
      by_cases h2 : r = c2
      · rw [if_pos (by simpa using h2)]
        refine wp_seq (r_wconst E (by omega) hC4 hI (by decide) (by decide) fun v w' hI' => ?_)
        show Code.wp _ _ _ _ _
        have s4 := s3.put (s + 10) v (by omega) (by omega)
        have hC5 := hC.same s4 hlo
        generalize a4.put (some (s + 10)) v = a5 at s4 hC5
        refine wp_seq (r_wmove E (by rw [List.length_append, len8219]; omega) hC5 hI' (by omega) (by omega) (by omega) (by omega) fun v2 w2 hI2 => ?_)
        show Code.wp _ _ _ _ _
        refine wp_exit ?_
        have s5 := (s4.put (s + 11) (.int .i32 r) (by omega) (by omega)).put (s + 11 + 1) v2 (by omega) (by omega)
        simp only [Exit.then, Exit.inBlock, if_neg hne]
        exact hx2 hh h2 _ _ s5 hI2
      · rw [if_neg (by simpa using h2)]
        exact wp_skip (hn (.inr ⟨h1, h2⟩) _ s3)
/-- One of two characters, tested. -/
theorem r_or {id x s t u : Nat} {c1 c2 : Int} {p0 p1 p2 p3 : String} (hlt : s < a.tmps.size ∧ t < a.tmps.size ∧ u < a.tmps.size) (hd : x ≠ s ∧ x ≠ t ∧ x ≠ u) (hi1 : lo ≤ s ∧ s ≤ hi ∧ lo ≤ t ∧ t ≤ hi ∧ lo ≤ u ∧ u ≤ hi) (hx : a.eval (.tmp x) = .int .i32 r)
    (h : ∀ a', Same lo hi a a' → a'.eval (.tmp t) = .bool (r == c1 || r == c2) → a'.eval (.tmp x) = .int .i32 r → Q .normal a' w) :
    ((Code.region (id) #[{ dst := some (s), op := .binOp .eql 21 (.tmp (x)) (.const (.int .i32 c1)) 21, type := 4, pos := p0, after := #[], guard := none }, { dst := some (t), op := .assign (.tmp (s)), type := 4, pos := p1, after := #[{ on := 0, ground := .data }], guard := none }] false).seq (Code.cond (.tmp t) Code.skip (Code.region (id + 1) #[{ dst := some (u), op := .binOp .eql 21 (.tmp (x)) (.const (.int .i32 c2)) 21, type := 4, pos := p2, after := #[], guard := none }, { dst := some (t), op := .assign (.tmp (u)), type := 4, pos := p3, after := #[{ on := 0, ground := .data }], guard := none }] false))).wp Tryd.prog Q a w := by
  obtain ⟨h1, h2, h3⟩ := hlt
  obtain ⟨d1, d2, d3⟩ := hd
  refine wp_seq (r_eq h1 hx ?_)
  show Code.wp _ _ _ _ _
  refine wp_cond (eval_same _ _ _ (by rw [size_put]; exact h2)) ?_
  have s1 : Same lo hi a ((a.put (some s) (.bool (r == c1))).put (some t) (.bool (r == c1))) := ((Same.refl a).put _ _ (by omega) (by omega)).put _ _ (by omega) (by omega)
  have e1 : ((a.put (some s) (.bool (r == c1))).put (some t) (.bool (r == c1))).eval (.tmp x) = .int .i32 r := by rw [eval_other _ _ _ _ d2, eval_other _ _ _ _ d1]; exact hx
  have e2 := eval_same (a.put (some s) (.bool (r == c1))) t (.bool (r == c1)) (by rw [size_put]; exact h2)
  generalize (a.put (some s) (.bool (r == c1))).put (some t) (.bool (r == c1)) = a1 at s1 e1 e2
  by_cases k1 : r = c1
  · rw [if_pos (by simpa using k1)]
    exact wp_skip (h _ s1 (by rw [e2]; simp [k1]) e1)
  · rw [if_neg (by simpa using k1)]
    refine r_eq (by rw [s1.size]; exact h3) e1 ?_
    refine h _ ((s1.put _ _ (by omega) (by omega)).put _ _ (by omega) (by omega)) ?_ ?_
    · rw [eval_same _ _ _ (by rw [size_put, s1.size]; exact h2)]; simp [k1]
    · rw [eval_other _ _ _ _ d2, eval_other _ _ _ _ d3]; exact e1
/-- Two characters and their signs. -/
theorem segB {id bk ex s : Nat} {f c1 c2 d1 d2 off : Int} {p0 p1 p2 p3 p4 p5 p6 p7 p8 p9 p10 p11 p12 p13 p14 p15 p16 : String} (E : Env lim m pm pb I) (hL : acc.length + 4 ≤ lim) (hC : Ctx N pm pb r a) (hI : I acc w) (hr0 : 0 ≤ r) (hr1 : r ≤ 1114111)
    (hlo : 26 < lo) (hs : lo ≤ s) (hsN : s + 14 ≤ hi) (hhi : hi < N) (hne : ex ≠ bk)
    (hn : (hb m f = false ∨ ((r == c1 || r == c2) = false ∧ (r == d1 || r == d2) = false)) → ∀ a', Same lo hi a a' → Q .normal a' w)
    (hx1 : hb m f = true → (r == c1 || r == c2) = true → ∀ a' w', Same lo hi a a' → I (acc ++ Lib.encodeRune (IntKind.i32.wrap (r + off))) w' → Q (.exit ex) a' w')
    (hx2 : hb m f = true → (r == c1 || r == c2) = false → (r == d1 || r == d2) = true → ∀ a' w', Same lo hi a a' → I (acc ++ Lib.encodeRune 8219 ++ Lib.encodeRune r) w' → Q (.exit ex) a' w') :
    ((Code.region id #[{ dst := some s, op := .load 39 (.tmp 2), type := 39, pos := p0, after := #[], guard := none }, { dst := some (s + 1), op := .call { callee := .value (.func 40), args := #[.tmp s, .const (.int .u64 f)], argTypes := #[39, 39] }, type := 4, pos := p1, after := #[{ on := 0, ground := .data }], guard := none }] false).seq
      (Code.cond (.tmp (s + 1))
        ((Code.region (id + 1) #[{ dst := some (s + 2), op := .move (.tmp 26), type := 21, pos := p2, after := #[], guard := none }] false).seq
          (Code.block bk
            (((Code.region (id + 2) #[{ dst := some (s + 4), op := .binOp .eql 21 (.tmp (s + 2)) (.const (.int .i32 c1)) 21, type := 4, pos := p3, after := #[], guard := none }, { dst := some (s + 3), op := .assign (.tmp (s + 4)), type := 4, pos := p4, after := #[{ on := 0, ground := .data }], guard := none }] false).seq (Code.cond (.tmp (s + 3)) Code.skip (Code.region (id + 2 + 1) #[{ dst := some (s + 5), op := .binOp .eql 21 (.tmp (s + 2)) (.const (.int .i32 c2)) 21, type := 4, pos := p5, after := #[], guard := none }, { dst := some (s + 3), op := .assign (.tmp (s + 5)), type := 4, pos := p6, after := #[{ on := 0, ground := .data }], guard := none }] false))).seq
              (Code.cond (.tmp (s + 3))
                ((Code.region (id + 4) #[{ dst := some (s + 6), op := .move (.tmp 26), type := 21, pos := p7, after := #[], guard := none }, { dst := some (s + 6 + 1), op := .binOp .add 21 (.tmp (s + 6)) (.const (.int .i32 off)) 21, type := 21, pos := p8, after := #[{ on := 0, ground := .data }], guard := none }, { dst := some (s + 6 + 2), op := .call { callee := .value (.func 47), args := #[.tmp 24, .tmp (s + 6 + 1)], argTypes := #[56, 21] }, type := 60, pos := p9, after := #[{ on := 1, ground := .data }], guard := none }] false).seq (Code.exit ex))
                (((Code.region (id + 5) #[{ dst := some (s + 10), op := .binOp .eql 21 (.tmp (s + 2)) (.const (.int .i32 d1)) 21, type := 4, pos := p10, after := #[], guard := none }, { dst := some (s + 9), op := .assign (.tmp (s + 10)), type := 4, pos := p11, after := #[{ on := 0, ground := .data }], guard := none }] false).seq (Code.cond (.tmp (s + 9)) Code.skip (Code.region (id + 5 + 1) #[{ dst := some (s + 11), op := .binOp .eql 21 (.tmp (s + 2)) (.const (.int .i32 d2)) 21, type := 4, pos := p12, after := #[], guard := none }, { dst := some (s + 9), op := .assign (.tmp (s + 11)), type := 4, pos := p13, after := #[{ on := 0, ground := .data }], guard := none }] false))).seq
                  (Code.cond (.tmp (s + 9))
                    ((Code.region (id + 7) #[{ dst := some (s + 12), op := .call { callee := .value (.func 47), args := #[.tmp 24, .const (.int .i32 8219)], argTypes := #[56, 21] }, type := 60, pos := p14, after := #[], guard := none }] false).seq ((Code.region (id + 8) #[{ dst := some (s + 13), op := .move (.tmp 26), type := 21, pos := p15, after := #[], guard := none }, { dst := some (s + 13 + 1), op := .call { callee := .value (.func 47), args := #[.tmp 24, .tmp (s + 13)], argTypes := #[56, 21] }, type := 60, pos := p16, after := #[{ on := 0, ground := .data }], guard := none }] false).seq (Code.exit ex)))
                    Code.skip))))))
        Code.skip)).wp Tryd.prog Q a w := by
  have hN := hC.size
  refine wp_seq (r_has (by omega) hC.mask (E.cell _ _ hI) ?_)
  show Code.wp _ _ _ _ _
  refine wp_cond (eval_same _ _ _ (by rw [size_put]; omega)) ?_
  have s0 : Same lo hi a ((a.put (some s) (.int .u64 m)).put (some (s + 1)) (.bool (hb m f))) := ((Same.refl a).put _ _ (by omega) (by omega)).put _ _ (by omega) (by omega)
  generalize (a.put (some s) (.int .u64 m)).put (some (s + 1)) (.bool (hb m f)) = a1 at s0
  have hC1 := hC.same s0 hlo
  cases hh : hb m f with
  | false => exact wp_skip (hn (.inl hh) _ s0)
  | true =>
    rw [if_pos rfl]
    refine wp_seq (r_move ?_)
    show Code.wp _ _ _ _ _
    rw [hC1.rune]
    have s1 := s0.put (s + 2) (.int .i32 r) (by omega) (by omega)
    have e1 := eval_same a1 (s + 2) (.int .i32 r) (by rw [hC1.size]; omega)
    have hC2 := hC.same s1 hlo
    generalize a1.put (some (s + 2)) (.int .i32 r) = a2 at s1 e1 hC2
    refine wp_block ?_
    refine wp_seq (r_or (lo := lo) (hi := hi) (by rw [hC2.size]; omega) (by omega) (by omega) e1 fun a3 s2' t3 e3 => ?_)
    have s2 := s1.trans s2'
    have hC3 := hC.same s2 hlo
    show Code.wp _ _ _ _ _
    refine wp_cond t3 ?_
    cases h1 : (r == c1 || r == c2) with
    | true =>
      rw [if_pos rfl]
      refine wp_seq (r_wadd E (by omega) hC3 hI (by omega) (by omega) fun v w' hI' => ?_)
      show Code.wp _ _ _ _ _
      refine wp_exit ?_
      have s3 := ((s2.put (s + 6) (.int .i32 r) (by omega) (by omega)).put (s + 6 + 1) (.int .i32 (IntKind.i32.wrap (r + off))) (by omega) (by omega)).put (s + 6 + 2) v (by omega) (by omega)
      simp only [Exit.then, Exit.inBlock, if_neg hne]
      exact hx1 hh h1 _ _ s3 hI'
    | false =>
      rw [if_neg (by simp)]
      refine wp_seq (r_or (lo := lo) (hi := hi) (by rw [hC3.size]; omega) (by omega) (by omega) e3 fun a4 s3' t4 e4 => ?_)
      have s3 := s2.trans s3'
      have hC4 := hC.same s3 hlo
      show Code.wp _ _ _ _ _
      refine wp_cond t4 ?_
      cases h2 : (r == d1 || r == d2) with
      | true =>
        rw [if_pos rfl]
        refine wp_seq (r_wconst E (by omega) hC4 hI (by decide) (by decide) fun v w' hI' => ?_)
        show Code.wp _ _ _ _ _
        have s4 := s3.put (s + 12) v (by omega) (by omega)
        have hC5 := hC.same s4 hlo
        generalize a4.put (some (s + 12)) v = a5 at s4 hC5
        refine wp_seq (r_wmove E (by rw [List.length_append, len8219]; omega) hC5 hI' (by omega) (by omega) (by omega) (by omega) fun v2 w2 hI2 => ?_)
        show Code.wp _ _ _ _ _
        refine wp_exit ?_
        have s5 := (s4.put (s + 13) (.int .i32 r) (by omega) (by omega)).put (s + 13 + 1) v2 (by omega) (by omega)
        simp only [Exit.then, Exit.inBlock, if_neg hne]
        exact hx2 hh h1 h2 _ _ s5 hI2
      | false =>
        rw [if_neg (by simp)]
        exact wp_skip (hn (.inr ⟨h1, h2⟩) _ s3)
/-- One character that is written as a constant, and its sign. -/
theorem segC {id bk ex s : Nat} {f c1 c2 c3 : Int} {p0 p1 p2 p3 p4 p5 p6 p7 p8 p9 p10 : String} (E : Env lim m pm pb I) (hL : acc.length + 4 ≤ lim) (hC : Ctx N pm pb r a) (hI : I acc w) (hr0 : 0 ≤ r) (hr1 : r ≤ 1114111)
    (hlo : 26 < lo) (hs : lo ≤ s) (hsN : s + 10 ≤ hi) (hhi : hi < N) (hne : ex ≠ bk) (hc3 : -2147483648 ≤ c3 ∧ c3 ≤ 2147483647)
    (hn : (hb m f = false ∨ (r ≠ c1 ∧ r ≠ c2)) → ∀ a', Same lo hi a a' → Q .normal a' w)
    (hx1 : hb m f = true → r = c1 → ∀ a' w', Same lo hi a a' → I (acc ++ Lib.encodeRune c3) w' → Q (.exit ex) a' w')
    (hx2 : hb m f = true → r = c2 → ∀ a' w', Same lo hi a a' → I (acc ++ Lib.encodeRune 8219 ++ Lib.encodeRune r) w' → Q (.exit ex) a' w') :
    ((Code.region id #[{ dst := some s, op := .load 39 (.tmp 2), type := 39, pos := p0, after := #[], guard := none }, { dst := some (s + 1), op := .call { callee := .value (.func 40), args := #[.tmp s, .const (.int .u64 f)], argTypes := #[39, 39] }, type := 4, pos := p1, after := #[{ on := 0, ground := .data }], guard := none }] false).seq
      (Code.cond (.tmp (s + 1))
        ((Code.region (id + 1) #[{ dst := some (s + 2), op := .move (.tmp 26), type := 21, pos := p2, after := #[], guard := none }] false).seq
          (Code.block bk
            ((Code.region (id + 2) #[{ dst := some (s + 4), op := .binOp .eql 21 (.tmp (s + 2)) (.const (.int .i32 c1)) 21, type := 4, pos := p3, after := #[], guard := none }, { dst := some (s + 3), op := .assign (.tmp (s + 4)), type := 4, pos := p4, after := #[{ on := 0, ground := .data }], guard := none }] false).seq
              (Code.cond (.tmp (s + 3))
                ((Code.region (id + 3) #[{ dst := some (s + 5), op := .call { callee := .value (.func 47), args := #[.tmp 24, .const (.int .i32 c3)], argTypes := #[56, 21] }, type := 60, pos := p5, after := #[], guard := none }] false).seq (Code.exit ex))
                ((Code.region (id + 4) #[{ dst := some (s + 7), op := .binOp .eql 21 (.tmp (s + 2)) (.const (.int .i32 c2)) 21, type := 4, pos := p6, after := #[], guard := none }, { dst := some (s + 6), op := .assign (.tmp (s + 7)), type := 4, pos := p7, after := #[{ on := 0, ground := .data }], guard := none }] false).seq
                  (Code.cond (.tmp (s + 6))
                    ((Code.region (id + 5) #[{ dst := some (s + 8), op := .call { callee := .value (.func 47), args := #[.tmp 24, .const (.int .i32 8219)], argTypes := #[56, 21] }, type := 60, pos := p8, after := #[], guard := none }] false).seq ((Code.region (id + 6) #[{ dst := some (s + 9), op := .move (.tmp 26), type := 21, pos := p9, after := #[], guard := none }, { dst := some (s + 9 + 1), op := .call { callee := .value (.func 47), args := #[.tmp 24, .tmp (s + 9)], argTypes := #[56, 21] }, type := 60, pos := p10, after := #[{ on := 0, ground := .data }], guard := none }] false).seq (Code.exit ex)))
                    Code.skip))))))
        Code.skip)).wp Tryd.prog Q a w := by
  have hN := hC.size
  refine wp_seq (r_has (by omega) hC.mask (E.cell _ _ hI) ?_)
  show Code.wp _ _ _ _ _
  refine wp_cond (eval_same _ _ _ (by rw [size_put]; omega)) ?_
  have s0 : Same lo hi a ((a.put (some s) (.int .u64 m)).put (some (s + 1)) (.bool (hb m f))) := ((Same.refl a).put _ _ (by omega) (by omega)).put _ _ (by omega) (by omega)
  generalize (a.put (some s) (.int .u64 m)).put (some (s + 1)) (.bool (hb m f)) = a1 at s0
  have hC1 := hC.same s0 hlo
  cases hh : hb m f with
  | false => exact wp_skip (hn (.inl hh) _ s0)
  | true =>
    rw [if_pos rfl]
    refine wp_seq (r_move ?_)
    show Code.wp _ _ _ _ _
    rw [hC1.rune]
    have s1 := s0.put (s + 2) (.int .i32 r) (by omega) (by omega)
    have e1 := eval_same a1 (s + 2) (.int .i32 r) (by rw [hC1.size]; omega)
    have hC2 := hC.same s1 hlo
    generalize a1.put (some (s + 2)) (.int .i32 r) = a2 at s1 e1 hC2
    refine wp_block ?_
    refine wp_seq (r_eq (by rw [hC2.size]; omega) e1 ?_)
    show Code.wp _ _ _ _ _
    refine wp_cond (eval_same _ _ _ (by rw [size_put, hC2.size]; omega)) ?_
    have s2 := (s1.put (s + 4) (.bool (r == c1)) (by omega) (by omega)).put (s + 3) (.bool (r == c1)) (by omega) (by omega)
    have e2 : ((a2.put (some (s + 4)) (.bool (r == c1))).put (some (s + 3)) (.bool (r == c1))).eval (.tmp (s + 2)) = .int .i32 r := by
      rw [eval_other _ _ _ _ (by omega), eval_other _ _ _ _ (by omega)]; exact e1
    have hC3 := hC.same s2 hlo
    generalize (a2.put (some (s + 4)) (.bool (r == c1))).put (some (s + 3)) (.bool (r == c1)) = a3 at s2 e2 hC3
    by_cases h1 : r = c1
    · rw [if_pos (by simpa using h1)]
      refine wp_seq (r_wconst E (by omega) hC3 hI hc3.1 hc3.2 fun v w' hI' => ?_)
      show Code.wp _ _ _ _ _
      refine wp_exit ?_
      have s3 := s2.put (s + 5) v (by omega) (by omega)
      simp only [Exit.then, Exit.inBlock, if_neg hne]
      exact hx1 hh h1 _ _ s3 hI'
    · rw [if_neg (by simpa using h1)]
      refine wp_seq (r_eq (by rw [hC3.size]; omega) e2 ?_)
      show Code.wp _ _ _ _ _
      refine wp_cond (eval_same _ _ _ (by rw [size_put, hC3.size]; omega)) ?_
      have s3 := (s2.put (s + 7) (.bool (r == c2)) (by omega) (by omega)).put (s + 6) (.bool (r == c2)) (by omega) (by omega)
      have hC4 := hC.same s3 hlo
      generalize (a3.put (some (s + 7)) (.bool (r == c2))).put (some (s + 6)) (.bool (r == c2)) = a4 at s3 hC4
      by_cases h2 : r = c2
      · rw [if_pos (by simpa using h2)]
        refine wp_seq (r_wconst E (by omega) hC4 hI (by decide) (by decide) fun v w' hI' => ?_)
        show Code.wp _ _ _ _ _
        have s4 := s3.put (s + 8) v (by omega) (by omega)
        have hC5 := hC.same s4 hlo
        generalize a4.put (some (s + 8)) v = a5 at s4 hC5
        refine wp_seq (r_wmove E (by rw [List.length_append, len8219]; omega) hC5 hI' (by omega) (by omega) (by omega) (by omega) fun v2 w2 hI2 => ?_)
        show Code.wp _ _ _ _ _
        refine wp_exit ?_
        have s5 := (s4.put (s + 9) (.int .i32 r) (by omega) (by omega)).put (s + 9 + 1) v2 (by omega) (by omega)
        simp only [Exit.then, Exit.inBlock, if_neg hne]
        exact hx2 hh h2 _ _ s5 hI2
      · rw [if_neg (by simpa using h2)]
        exact wp_skip (hn (.inr ⟨h1, h2⟩) _ s3)
/-- What an operation of the region has yielded. -/
theorem yielded_at {ops : Array Oper} {a : Act} {j d : Nat} {b : Bool} (h : (ops[j]?).bind (·.dst) = some d) (hd : d < a.tmps.size) (he : a.eval (.tmp d) = .bool b) : yielded ops a.tmps j = some b := by
  unfold yielded
  rw [h]
  simp only [Option.bind_some]
  have e : a.tmps[d]? = some (.bool b) := by
    simp only [Act.eval, Array.getD_eq_getD_getElem?] at he
    rw [Array.getElem?_eq_getElem hd] at he ⊢
    simpa using he
  rw [e]
theorem guard_yes {P : Program} {ops : Array Oper} {rest : List Oper} {o : Oper} {v : Value} {j d : Nat} {b : Bool} {w' : World} (hg : o.guard = some (j, b)) (hj : (ops[j]?).bind (·.dst) = some d) (hd : d < a.tmps.size) (he : a.eval (.tmp d) = .bool b)
    (hr : (execOp a.eval o).run P w = .ok (.value v) w') (h : wpList P ops Q rest (a.put o.dst v) w') : wpList P ops Q (o :: rest) a w := by
  unfold wpList
  rw [if_pos (by simp [Region.wanted, hg, yielded_at hj hd he])]
  left
  unfold Oper.wp
  rw [hr]
  exact h
theorem guard_no {P : Program} {ops : Array Oper} {rest : List Oper} {o : Oper} {j d : Nat} {b c : Bool} (hg : o.guard = some (j, b)) (hj : (ops[j]?).bind (·.dst) = some d) (hd : d < a.tmps.size) (he : a.eval (.tmp d) = .bool c) (hbc : c ≠ b)
    (h : wpList P ops Q rest (a.put o.dst undef) w) : wpList P ops Q (o :: rest) a w := by
  unfold wpList
  rw [if_neg (by simp [Region.wanted, hg, yielded_at hj hd he, hbc])]
  exact h
theorem run_geq {a : Act} {x y : Operand} {d : Option Tmp} {t t2 ty : TypeId} {pos : String} {aft : Array Edge} {g : Option (Nat × Bool)} {k : IntKind} {m n : Int} {P : Program} {w : World} (ht : P.underlying t = some (.int k)) (hx : a.eval x = .int k m) (hy : a.eval y = .int k n) :
    (execOp a.eval { dst := d, op := .binOp .geq t x y t2, type := ty, pos := pos, after := aft, guard := g }).run P w = .ok (.value (.bool (decide (n ≤ m)))) w := by
  simp only [execOp, hx, hy]
  simp [go_sem, run_underlying ht, ht]
theorem run_gtr {a : Act} {x y : Operand} {d : Option Tmp} {t t2 ty : TypeId} {pos : String} {aft : Array Edge} {g : Option (Nat × Bool)} {k : IntKind} {m n : Int} {P : Program} {w : World} (ht : P.underlying t = some (.int k)) (hx : a.eval x = .int k m) (hy : a.eval y = .int k n) :
    (execOp a.eval { dst := d, op := .binOp .gtr t x y t2, type := ty, pos := pos, after := aft, guard := g }).run P w = .ok (.value (.bool (decide (n < m)))) w := by
  simp only [execOp, hx, hy]
  simp [go_sem, run_underlying ht, ht]
theorem run_leq {a : Act} {x y : Operand} {d : Option Tmp} {t t2 ty : TypeId} {pos : String} {aft : Array Edge} {g : Option (Nat × Bool)} {k : IntKind} {m n : Int} {P : Program} {w : World} (ht : P.underlying t = some (.int k)) (hx : a.eval x = .int k m) (hy : a.eval y = .int k n) :
    (execOp a.eval { dst := d, op := .binOp .leq t x y t2, type := ty, pos := pos, after := aft, guard := g }).run P w = .ok (.value (.bool (decide (m ≤ n)))) w := by
  simp only [execOp, hx, hy]
  simp [go_sem, run_underlying ht, ht]
theorem run_pick {a : Act} {x y z : Operand} {d : Option Tmp} {ty : TypeId} {pos : String} {aft : Array Edge} {g : Option (Nat × Bool)} {b : Bool} {P : Program} {w : World} (hx : a.eval x = .bool b) :
    (execOp a.eval { dst := d, op := .pick x y z, type := ty, pos := pos, after := aft, guard := g }).run P w = .ok (.value (if b = true then a.eval y else a.eval z)) w := by
  simp only [execOp, hx]
  simp [go_sem]
theorem r_and_geq {id s : Nat} {c c' : Int} {p0 p1 p2 p3 p4 p5 : String} {g1 g2 g3 g4 g5 : Array Edge} (hx : a.eval (.tmp 26) = .int .i32 r) (hlo : 26 < lo) (hs : lo ≤ s) (hsN : s + 5 ≤ hi) (hhi : hi < a.tmps.size)
    (h : ∀ a', Same lo hi a a' → a'.eval (.tmp (s + 5)) = .bool (decide (c ≤ r) && decide (r ≤ c')) → Q .normal a' w) :
    (Code.region (id) #[{ dst := some (s), op := .move (.tmp 26), type := 21, pos := p0, after := #[], guard := none }, { dst := some (s + 1), op := .binOp .geq 21 (.tmp (s)) (.const (.int .i32 c)) 21, type := 4, pos := p1, after := g1, guard := none }, { dst := some (s + 2), op := .move (.tmp (s + 1)), type := 4, pos := p2, after := g2, guard := none }, { dst := some (s + 3), op := .move (.tmp 26), type := 21, pos := p3, after := g3, guard := some (2, true) }, { dst := some (s + 4), op := .binOp .leq 21 (.tmp (s + 3)) (.const (.int .i32 c')) 21, type := 4, pos := p4, after := g4, guard := some (2, true) }, { dst := some (s + 5), op := .pick (.tmp (s + 2)) (.tmp (s + 4)) (.const (.bool false)), type := 4, pos := p5, after := g5, guard := none }] false).wp Tryd.prog Q a w := by
  refine wp_region_lit ?_
  refine move ?_
  rw [hx]
  refine step rfl (run_geq Tryd.underlying21 (eval_same _ _ _ (by omega)) rfl) ?_
  refine move ?_
  rw [eval_same _ _ _ (by rw [size_put]; omega)]
  have s1 : Same lo hi a (((a.put (some s) (.int .i32 r)).put (some (s + 1)) (.bool (decide (c ≤ r)))).put (some (s + 2)) (.bool (decide (c ≤ r)))) := (((Same.refl a).put _ _ (by omega) (by omega)).put _ _ (by omega) (by omega)).put _ _ (by omega) (by omega)
  have e2 := eval_same ((a.put (some s) (.int .i32 r)).put (some (s + 1)) (.bool (decide (c ≤ r)))) (s + 2) (.bool (decide (c ≤ r))) (by rw [size_put, size_put]; omega)
  show wpList _ _ _ _ (((a.put (some s) (.int .i32 r)).put (some (s + 1)) (.bool (decide (c ≤ r)))).put (some (s + 2)) (.bool (decide (c ≤ r)))) w
  generalize (((a.put (some s) (.int .i32 r)).put (some (s + 1)) (.bool (decide (c ≤ r)))).put (some (s + 2)) (.bool (decide (c ≤ r)))) = a1 at s1 e2
  have hz : s + 5 < a1.tmps.size := by rw [s1.size]; omega
  have hx1 : a1.eval (.tmp 26) = .int .i32 r := (s1.slot 26 (by omega)).trans hx
  cases hb1 : decide (c ≤ r) with
  | true =>
    rw [hb1] at e2
    refine guard_yes (j := 2) (b := true) (d := s + 2) rfl rfl (by omega) e2 rfl ?_
    rw [hx1]
    refine guard_yes (j := 2) (b := true) (d := s + 2) rfl rfl (by rw [size_put]; omega) (by rw [eval_other _ _ _ _ (by omega)]; exact e2) (run_leq Tryd.underlying21 (eval_same _ _ _ (by omega)) rfl) ?_
    refine step rfl (run_pick (b := true) (by rw [eval_other _ _ _ _ (by omega), eval_other _ _ _ _ (by omega)]; exact e2)) ?_
    rw [if_pos rfl, eval_same _ _ _ (by rw [size_put]; omega)]
    refine h _ (((s1.put _ _ (by omega) (by omega)).put _ _ (by omega) (by omega)).put _ _ (by omega) (by omega)) ?_
    rw [hb1, Bool.true_and]
    exact eval_same _ _ _ (by rw [size_put, size_put]; omega)
  | false =>
    rw [hb1] at e2
    refine guard_no (j := 2) (b := true) (c := false) (d := s + 2) rfl rfl (by omega) e2 (by decide) ?_
    refine guard_no (j := 2) (b := true) (c := false) (d := s + 2) rfl rfl (by rw [size_put]; omega) (by rw [eval_other _ _ _ _ (by omega)]; exact e2) (by decide) ?_
    refine step rfl (run_pick (b := false) (by rw [eval_other _ _ _ _ (by omega), eval_other _ _ _ _ (by omega)]; exact e2)) ?_
    rw [if_neg (by decide), eval_const]
    refine h _ (((s1.put _ _ (by omega) (by omega)).put _ _ (by omega) (by omega)).put _ _ (by omega) (by omega)) ?_
    rw [hb1, Bool.false_and]
    exact eval_same _ _ _ (by rw [size_put, size_put]; omega)
theorem r_and_gtr {id s : Nat} {c c' : Int} {p0 p1 p2 p3 p4 p5 : String} {g1 g2 g3 g4 g5 : Array Edge} (hx : a.eval (.tmp 26) = .int .i32 r) (hlo : 26 < lo) (hs : lo ≤ s) (hsN : s + 5 ≤ hi) (hhi : hi < a.tmps.size)
    (h : ∀ a', Same lo hi a a' → a'.eval (.tmp (s + 5)) = .bool (decide (c < r) && decide (r ≤ c')) → Q .normal a' w) :
    (Code.region (id) #[{ dst := some (s), op := .move (.tmp 26), type := 21, pos := p0, after := #[], guard := none }, { dst := some (s + 1), op := .binOp .gtr 21 (.tmp (s)) (.const (.int .i32 c)) 21, type := 4, pos := p1, after := g1, guard := none }, { dst := some (s + 2), op := .move (.tmp (s + 1)), type := 4, pos := p2, after := g2, guard := none }, { dst := some (s + 3), op := .move (.tmp 26), type := 21, pos := p3, after := g3, guard := some (2, true) }, { dst := some (s + 4), op := .binOp .leq 21 (.tmp (s + 3)) (.const (.int .i32 c')) 21, type := 4, pos := p4, after := g4, guard := some (2, true) }, { dst := some (s + 5), op := .pick (.tmp (s + 2)) (.tmp (s + 4)) (.const (.bool false)), type := 4, pos := p5, after := g5, guard := none }] false).wp Tryd.prog Q a w := by
  refine wp_region_lit ?_
  refine move ?_
  rw [hx]
  refine step rfl (run_gtr Tryd.underlying21 (eval_same _ _ _ (by omega)) rfl) ?_
  refine move ?_
  rw [eval_same _ _ _ (by rw [size_put]; omega)]
  have s1 : Same lo hi a (((a.put (some s) (.int .i32 r)).put (some (s + 1)) (.bool (decide (c < r)))).put (some (s + 2)) (.bool (decide (c < r)))) := (((Same.refl a).put _ _ (by omega) (by omega)).put _ _ (by omega) (by omega)).put _ _ (by omega) (by omega)
  have e2 := eval_same ((a.put (some s) (.int .i32 r)).put (some (s + 1)) (.bool (decide (c < r)))) (s + 2) (.bool (decide (c < r))) (by rw [size_put, size_put]; omega)
  show wpList _ _ _ _ (((a.put (some s) (.int .i32 r)).put (some (s + 1)) (.bool (decide (c < r)))).put (some (s + 2)) (.bool (decide (c < r)))) w
  generalize (((a.put (some s) (.int .i32 r)).put (some (s + 1)) (.bool (decide (c < r)))).put (some (s + 2)) (.bool (decide (c < r)))) = a1 at s1 e2
  have hz : s + 5 < a1.tmps.size := by rw [s1.size]; omega
  have hx1 : a1.eval (.tmp 26) = .int .i32 r := (s1.slot 26 (by omega)).trans hx
  cases hb1 : decide (c < r) with
  | true =>
    rw [hb1] at e2
    refine guard_yes (j := 2) (b := true) (d := s + 2) rfl rfl (by omega) e2 rfl ?_
    rw [hx1]
    refine guard_yes (j := 2) (b := true) (d := s + 2) rfl rfl (by rw [size_put]; omega) (by rw [eval_other _ _ _ _ (by omega)]; exact e2) (run_leq Tryd.underlying21 (eval_same _ _ _ (by omega)) rfl) ?_
    refine step rfl (run_pick (b := true) (by rw [eval_other _ _ _ _ (by omega), eval_other _ _ _ _ (by omega)]; exact e2)) ?_
    rw [if_pos rfl, eval_same _ _ _ (by rw [size_put]; omega)]
    refine h _ (((s1.put _ _ (by omega) (by omega)).put _ _ (by omega) (by omega)).put _ _ (by omega) (by omega)) ?_
    rw [hb1, Bool.true_and]
    exact eval_same _ _ _ (by rw [size_put, size_put]; omega)
  | false =>
    rw [hb1] at e2
    refine guard_no (j := 2) (b := true) (c := false) (d := s + 2) rfl rfl (by omega) e2 (by decide) ?_
    refine guard_no (j := 2) (b := true) (c := false) (d := s + 2) rfl rfl (by rw [size_put]; omega) (by rw [eval_other _ _ _ _ (by omega)]; exact e2) (by decide) ?_
    refine step rfl (run_pick (b := false) (by rw [eval_other _ _ _ _ (by omega), eval_other _ _ _ _ (by omega)]; exact e2)) ?_
    rw [if_neg (by decide), eval_const]
    refine h _ (((s1.put _ _ (by omega) (by omega)).put _ _ (by omega) (by omega)).put _ _ (by omega) (by omega)) ?_
    rw [hb1, Bool.false_and]
    exact eval_same _ _ _ (by rw [size_put, size_put]; omega)
/-- out.WriteRune(c + r). -/
theorem r_addw {id s : Nat} {off : Int} {p1 p2 p3 : String} (E : Env lim m pm pb I) (hL : acc.length ≤ lim) (hC : Ctx N pm pb r a) (hI : I acc w) (hs : 26 < s) (hsN : s + 2 < N)
    (h : ∀ v w', I (acc ++ Lib.encodeRune (IntKind.i32.wrap (off + r))) w' → Q .normal (((a.put (some s) (.int .i32 r)).put (some (s + 1)) (.int .i32 (IntKind.i32.wrap (off + r)))).put (some (s + 2)) v) w') :
    (Code.region (id) #[{ dst := some (s), op := .move (.tmp 26), type := 21, pos := p1, after := #[], guard := none }, { dst := some (s + 1), op := .binOp .add 21 (.const (.int .i32 off)) (.tmp (s)) 21, type := 21, pos := p2, after := #[{ on := 0, ground := .data }], guard := none }, { dst := some (s + 2), op := .call { callee := .value (.func 47), args := #[.tmp 24, .tmp (s + 1)], argTypes := #[56, 21] }, type := 60, pos := p3, after := #[{ on := 1, ground := .data }], guard := none }] false).wp Tryd.prog Q a w := by
  refine wp_region_lit ?_
  refine move ?_
  rw [hC.rune]
  refine addInt Tryd.underlying21 rfl (eval_same _ _ _ (by rw [hC.size]; omega)) ?_
  refine call enters47 ?_
  have e : (#[Operand.tmp 24, .tmp (s + 1)]).map ((a.put (some s) (.int .i32 r)).put (some (s + 1)) (.int .i32 (IntKind.i32.wrap (off + r)))).eval = #[.pointer (some pb), .int .i32 (IntKind.i32.wrap (off + r))] := by
    simp [eval_same _ _ _ (show s + 1 < (a.put (some s) (.int .i32 r)).tmps.size by rw [size_put, hC.size]; omega), eval_other _ (s + 1) 24 _ (by omega), eval_other _ s 24 _ (by omega), hC.buf]
  rw [e]
  have hw := IntKind.wrap_i32 (off + r)
  exact (E.write acc w _ hL hI (by omega) (by omega)).mono fun e w' hh => by obtain ⟨v, rfl, h2⟩ := hh; exact ⟨v, rfl, h v w' h2⟩
/-- Control characters and their signs. -/
theorem segD {id ex s : Nat} {f c1 c2 d1 d2 off : Int} {p0 p1 p2 p3 p4 p5 p6 p7 p8 p9 p10 p11 p12 p13 p14 p15 p16 p17 p18 p19 : String} {g1 g2 g3 g4 g5 e1 e2 e3 e4 e5 : Array Edge} (E : Env lim m pm pb I) (hL : acc.length + 4 ≤ lim) (hC : Ctx N pm pb r a) (hI : I acc w) (hr0 : 0 ≤ r) (hr1 : r ≤ 1114111)
    (hlo : 26 < lo) (hs : lo ≤ s) (hsN : s + 20 ≤ hi) (hhi : hi < N)
    (hn : (hb m f = false ∨ ((decide (c1 ≤ r) && decide (r ≤ c2)) = false ∧ (decide (d1 < r) && decide (r ≤ d2)) = false)) → ∀ a', Same lo hi a a' → Q .normal a' w)
    (hx1 : hb m f = true → (decide (c1 ≤ r) && decide (r ≤ c2)) = true → ∀ a' w', Same lo hi a a' → I (acc ++ Lib.encodeRune (IntKind.i32.wrap (off + r))) w' → Q (.exit ex) a' w')
    (hx2 : hb m f = true → (decide (c1 ≤ r) && decide (r ≤ c2)) = false → (decide (d1 < r) && decide (r ≤ d2)) = true → ∀ a' w', Same lo hi a a' → I (acc ++ Lib.encodeRune 8219 ++ Lib.encodeRune r) w' → Q (.exit ex) a' w') :
    ((Code.region id #[{ dst := some s, op := .load 39 (.tmp 2), type := 39, pos := p0, after := #[], guard := none }, { dst := some (s + 1), op := .call { callee := .value (.func 40), args := #[.tmp s, .const (.int .u64 f)], argTypes := #[39, 39] }, type := 4, pos := p1, after := #[{ on := 0, ground := .data }], guard := none }] false).seq
      (Code.cond (.tmp (s + 1))
        ((Code.region (id + 1) #[{ dst := some (s + 2), op := .move (.tmp 26), type := 21, pos := p2, after := #[], guard := none }, { dst := some (s + 2 + 1), op := .binOp .geq 21 (.tmp (s + 2)) (.const (.int .i32 c1)) 21, type := 4, pos := p3, after := g1, guard := none }, { dst := some (s + 2 + 2), op := .move (.tmp (s + 2 + 1)), type := 4, pos := p4, after := g2, guard := none }, { dst := some (s + 2 + 3), op := .move (.tmp 26), type := 21, pos := p5, after := g3, guard := some (2, true) }, { dst := some (s + 2 + 4), op := .binOp .leq 21 (.tmp (s + 2 + 3)) (.const (.int .i32 c2)) 21, type := 4, pos := p6, after := g4, guard := some (2, true) }, { dst := some (s + 2 + 5), op := .pick (.tmp (s + 2 + 2)) (.tmp (s + 2 + 4)) (.const (.bool false)), type := 4, pos := p7, after := g5, guard := none }] false).seq
          (Code.cond (.tmp (s + 2 + 5))
            ((Code.region (id + 2) #[{ dst := some (s + 8), op := .move (.tmp 26), type := 21, pos := p8, after := #[], guard := none }, { dst := some (s + 8 + 1), op := .binOp .add 21 (.const (.int .i32 off)) (.tmp (s + 8)) 21, type := 21, pos := p9, after := #[{ on := 0, ground := .data }], guard := none }, { dst := some (s + 8 + 2), op := .call { callee := .value (.func 47), args := #[.tmp 24, .tmp (s + 8 + 1)], argTypes := #[56, 21] }, type := 60, pos := p10, after := #[{ on := 1, ground := .data }], guard := none }] false).seq (Code.exit ex))
            ((Code.region (id + 3) #[{ dst := some (s + 11), op := .move (.tmp 26), type := 21, pos := p11, after := #[], guard := none }, { dst := some (s + 11 + 1), op := .binOp .gtr 21 (.tmp (s + 11)) (.const (.int .i32 d1)) 21, type := 4, pos := p12, after := e1, guard := none }, { dst := some (s + 11 + 2), op := .move (.tmp (s + 11 + 1)), type := 4, pos := p13, after := e2, guard := none }, { dst := some (s + 11 + 3), op := .move (.tmp 26), type := 21, pos := p14, after := e3, guard := some (2, true) }, { dst := some (s + 11 + 4), op := .binOp .leq 21 (.tmp (s + 11 + 3)) (.const (.int .i32 d2)) 21, type := 4, pos := p15, after := e4, guard := some (2, true) }, { dst := some (s + 11 + 5), op := .pick (.tmp (s + 11 + 2)) (.tmp (s + 11 + 4)) (.const (.bool false)), type := 4, pos := p16, after := e5, guard := none }] false).seq
              (Code.cond (.tmp (s + 11 + 5))
                ((Code.region (id + 4) #[{ dst := some (s + 17), op := .call { callee := .value (.func 47), args := #[.tmp 24, .const (.int .i32 8219)], argTypes := #[56, 21] }, type := 60, pos := p17, after := #[], guard := none }] false).seq ((Code.region (id + 5) #[{ dst := some (s + 18), op := .move (.tmp 26), type := 21, pos := p18, after := #[], guard := none }, { dst := some (s + 18 + 1), op := .call { callee := .value (.func 47), args := #[.tmp 24, .tmp (s + 18)], argTypes := #[56, 21] }, type := 60, pos := p19, after := #[{ on := 0, ground := .data }], guard := none }] false).seq (Code.exit ex)))
                Code.skip))))
        Code.skip)).wp Tryd.prog Q a w := by
  have hN := hC.size
  refine wp_seq (r_has (by omega) hC.mask (E.cell _ _ hI) ?_)
  show Code.wp _ _ _ _ _
  refine wp_cond (eval_same _ _ _ (by rw [size_put]; omega)) ?_
  have s0 : Same lo hi a ((a.put (some s) (.int .u64 m)).put (some (s + 1)) (.bool (hb m f))) := ((Same.refl a).put _ _ (by omega) (by omega)).put _ _ (by omega) (by omega)
  generalize (a.put (some s) (.int .u64 m)).put (some (s + 1)) (.bool (hb m f)) = a1 at s0
  have hC1 := hC.same s0 hlo
  cases hh : hb m f with
  | false => exact wp_skip (hn (.inl hh) _ s0)
  | true =>
    rw [if_pos rfl]
    refine wp_seq (r_and_geq (hi := hi) hC1.rune hlo (by omega) (by omega) (by rw [hC1.size]; omega) fun a3 s2' t3 => ?_)
    have s2 := s0.trans s2'
    have hC3 := hC.same s2 hlo
    show Code.wp _ _ _ _ _
    refine wp_cond t3 ?_
    cases h1 : (decide (c1 ≤ r) && decide (r ≤ c2)) with
    | true =>
      rw [if_pos rfl]
      refine wp_seq (r_addw E (by omega) hC3 hI (by omega) (by omega) fun v w' hI' => ?_)
      show Code.wp _ _ _ _ _
      refine wp_exit ?_
      have s3 := ((s2.put (s + 8) (.int .i32 r) (by omega) (by omega)).put (s + 8 + 1) (.int .i32 (IntKind.i32.wrap (off + r))) (by omega) (by omega)).put (s + 8 + 2) v (by omega) (by omega)
      exact hx1 hh h1 _ _ s3 hI'
    | false =>
      rw [if_neg (by simp)]
      refine wp_seq (r_and_gtr (hi := hi) hC3.rune hlo (by omega) (by omega) (by rw [hC3.size]; omega) fun a4 s3' t4 => ?_)
      have s3 := s2.trans s3'
      have hC4 := hC.same s3 hlo
      show Code.wp _ _ _ _ _
      refine wp_cond t4 ?_
      cases h2 : (decide (d1 < r) && decide (r ≤ d2)) with
      | true =>
        rw [if_pos rfl]
        refine wp_seq (r_wconst E (by omega) hC4 hI (by decide) (by decide) fun v w' hI' => ?_)
        show Code.wp _ _ _ _ _
        have s4 := s3.put (s + 17) v (by omega) (by omega)
        have hC5 := hC.same s4 hlo
        generalize a4.put (some (s + 17)) v = a5 at s4 hC5
        refine wp_seq (r_wmove E (by rw [List.length_append, len8219]; omega) hC5 hI' (by omega) (by omega) (by omega) (by omega) fun v2 w2 hI2 => ?_)
        show Code.wp _ _ _ _ _
        refine wp_exit ?_
        have s5 := (s4.put (s + 18) (.int .i32 r) (by omega) (by omega)).put (s + 18 + 1) v2 (by omega) (by omega)
        exact hx2 hh h1 h2 _ _ s5 hI2
      | false =>
        rw [if_neg (by simp)]
        exact wp_skip (hn (.inr ⟨h1, h2⟩) _ s3)
end
end Go.Proofs.YtlgoghonnnobfaaDoor.Fr
namespace Go.Proofs.YtlgoghonnnobfaaDoor.Enc
open Go Go.RowKit Go.Proofs.YtlgoghonnnobfaaDoor.Fr
set_option linter.unusedVariables false
set_option linter.unusedSimpArgs false
/-- A piece of a function's code. -/
def piece : List Nat → Code → Code
  | [], c => c
  | 0 :: p, .seq a _ => piece p a
  | 1 :: p, .seq _ b => piece p b
  | 0 :: p, .cond _ a _ => piece p a
  | 1 :: p, .cond _ _ b => piece p b
  | _ :: p, .block _ c => piece p c
  | _ :: p, .loop c => piece p c
  | _, _ => .skip
/-- A bit: the characters that it takes, their signs, how far these lie. -/
structure Bit where
  f : Int
  cs : List Int
  ds : List Int
  off : Int
/-- How a rune is written by bits, one behind the other. -/
def by' (m r : Int) : List Bit → List UInt8
  | [] => Lib.encodeRune r
  | b :: t => if hb m b.f = true ∧ r ∈ b.cs then Lib.encodeRune (r + b.off) else if hb m b.f = true ∧ r ∈ b.ds then Lib.encodeRune 8219 ++ Lib.encodeRune r else by' m r t
def full (f : Int) (cs : List Int) : Bit := ⟨f, cs, cs.map (· + 65248), 65248⟩
def ctls : List Int := (List.range 31).map fun (k : Nat) => (k : Int) + 1
def bits : List Bit := [full 512 [42], full 4 [60, 62], full 67108864 [91, 93], full 134217728 [59], full 268435456 [33], full 256 [63], full 128 [58], full 1024 [124], full 8 [34], full 16 [39], full 32 [96], full 64 [36], full 2 [47], full 8192 [92], ⟨16384, [13, 10], [9229, 9226], 9216⟩, full 2048 [35], full 4096 [37], ⟨32768, [127], [9249], 9122⟩, ⟨65536, ctls, ctls.map (· + 9216), 9216⟩]
theorem by_miss {m r f off : Int} {cs ds : List Int} {t : List Bit} (h : hb m f = false ∨ (r ∉ cs ∧ r ∉ ds)) : by' m r (⟨f, cs, ds, off⟩ :: t) = by' m r t := by
  rw [by']
  rcases h with h | ⟨h1, h2⟩
  · rw [if_neg (by simp [h]), if_neg (by simp [h])]
  · rw [if_neg (fun h => h1 h.2), if_neg (fun h => h2 h.2)]
theorem by_one {m r f off : Int} {cs ds : List Int} {t : List Bit} (h : hb m f = true) (h1 : r ∈ cs) : by' m r (⟨f, cs, ds, off⟩ :: t) = Lib.encodeRune (r + off) := by
  rw [by', if_pos ⟨h, h1⟩]
theorem by_two {m r f off : Int} {cs ds : List Int} {t : List Bit} (h : hb m f = true) (h0 : r ∉ cs) (h1 : r ∈ ds) : by' m r (⟨f, cs, ds, off⟩ :: t) = Lib.encodeRune 8219 ++ Lib.encodeRune r := by
  rw [by', if_neg (fun h => h0 h.2), if_pos ⟨h, h1⟩]
theorem mem_ctls (r : Int) : r ∈ ctls ↔ (decide (1 ≤ r) && decide (r ≤ 31)) = true := by
  simp only [ctls, List.mem_map, List.mem_range, Bool.and_eq_true, decide_eq_true_eq]
  constructor
  · rintro ⟨k, hk, rfl⟩; omega
  · rintro ⟨h1, h2⟩; exact ⟨(r - 1).toNat, by omega, by omega⟩
theorem mem_signs (r : Int) : r ∈ ctls.map (· + 9216) ↔ (decide (9216 < r) && decide (r ≤ 9247)) = true := by
  simp only [ctls, List.map_map, List.mem_map, List.mem_range, Bool.and_eq_true, decide_eq_true_eq, Function.comp]
  constructor
  · rintro ⟨k, hk, rfl⟩; omega
  · rintro ⟨h1, h2⟩; exact ⟨(r - 9217).toNat, by omega, by omega⟩
theorem wrap_add {r off : Int} (h0 : 0 ≤ r) (h1 : r ≤ 1114111) (h2 : 0 ≤ off) (h3 : off ≤ 70000) : IntKind.i32.wrap (r + off) = r + off := by
  rw [IntKind.wrap_i32]; omega
set_option maxRecDepth 100000 in
set_option maxHeartbeats 2000000 in
theorem chain {Q : Exit → Act → World → Prop} {a : Act} {w : World} {m r : Int} {pm pb : Addr} {I : List UInt8 → World → Prop} {acc : List UInt8} {lim : Nat} (E : Env lim m pm pb I) (hL : acc.length + 4 ≤ lim) (hC : Ctx 602 pm pb r a) (hI : I acc w) (hr0 : 0 ≤ r) (hr1 : r ≤ 1114111)
    (H : ∀ e a' w', (e = .normal ∨ e = .exit 6) → Same 279 598 a a' → I (acc ++ by' m r bits) w' → Q e a' w') :
    (piece [1, 1, 1, 1, 1, 1, 1, 1, 1, 1, 1, 1, 1, 1, 1, 1, 1, 1, 1, 0, 1, 0, 0, 1, 1, 0, 1, 1] (Tryd.f29.body.getD .skip)).wp Tryd.prog Q a w := by
  unfold bits full at H
  conv => arg 2; whnf
  refine wp_seq (segA (lo := 279) (hi := 598) E hL hC hI hr0 hr1 ?_ ?_ ?_ ?_ ?_ ?n0 ?x0 ?y0)
  any_goals decide
  case x0 =>
    intro hh h1 a' w' hs hI2
    
    show Q (.exit 6) a' w'
    refine H (.exit 6) a' w' (.inr rfl) hs ?_
    rw [by_one hh]
    rotate_left
    · simp; omega
    rw [wrap_add hr0 hr1 (by decide) (by decide)] at hI2
    exact hI2
  case y0 =>
    intro hh h1 a' w' hs hI2
    show Q (.exit 6) a' w'
    refine H (.exit 6) a' w' (.inr rfl) hs ?_
    rw [by_two hh]
    rotate_left
    · subst h1; simp
    · simp; omega
    rw [← List.append_assoc]
    exact hI2
  intro hm a1 hs
  have S1 := hs
  have hC1 := hC.same S1 (by decide)
  rw [by_miss ?mi0] at H
  rotate_left
  · rcases hm with hm | ⟨h1, h2⟩; exact .inl hm; right; constructor <;> simp <;> omega
  clear hm hs
  show Code.wp _ _ _ _ _
  refine wp_seq (segB (lo := 279) (hi := 598) E hL hC1 hI hr0 hr1 ?_ ?_ ?_ ?_ ?_ ?n1 ?x1 ?y1)
  any_goals decide
  case x1 =>
    intro hh h0  a' w' hs hI2
    have h1 := h0
    show Q (.exit 6) a' w'
    refine H (.exit 6) a' w' (.inr rfl) (S1.trans hs) ?_
    rw [by_one hh]
    rotate_left
    · simp only [Bool.or_eq_true, beq_iff_eq] at h1; simp; omega
    rw [wrap_add hr0 hr1 (by decide) (by decide)] at hI2
    exact hI2
  case y1 =>
    intro hh h0 h1 a' w' hs hI2
    show Q (.exit 6) a' w'
    refine H (.exit 6) a' w' (.inr rfl) (S1.trans hs) ?_
    rw [by_two hh]
    rotate_left
    · simp only [Bool.or_eq_false_iff, beq_eq_false_iff_ne] at h0; simp; omega
    · simp only [Bool.or_eq_true, beq_iff_eq] at h1; simp; omega
    rw [← List.append_assoc]
    exact hI2
  intro hm a2 hs
  have S2 := S1.trans hs
  have hC2 := hC.same S2 (by decide)
  rw [by_miss ?mi1] at H
  rotate_left
  · rcases hm with hm | ⟨h1, h2⟩; exact .inl hm; right; simp only [Bool.or_eq_false_iff, beq_eq_false_iff_ne] at h1 h2; constructor <;> simp <;> omega
  clear hm hs
  show Code.wp _ _ _ _ _
  refine wp_seq (segB (lo := 279) (hi := 598) E hL hC2 hI hr0 hr1 ?_ ?_ ?_ ?_ ?_ ?n2 ?x2 ?y2)
  any_goals decide
  case x2 =>
    intro hh h0  a' w' hs hI2
    have h1 := h0
    show Q (.exit 6) a' w'
    refine H (.exit 6) a' w' (.inr rfl) (S2.trans hs) ?_
    rw [by_one hh]
    rotate_left
    · simp only [Bool.or_eq_true, beq_iff_eq] at h1; simp; omega
    rw [wrap_add hr0 hr1 (by decide) (by decide)] at hI2
    exact hI2
  case y2 =>
    intro hh h0 h1 a' w' hs hI2
    show Q (.exit 6) a' w'
    refine H (.exit 6) a' w' (.inr rfl) (S2.trans hs) ?_
    rw [by_two hh]
    rotate_left
    · simp only [Bool.or_eq_false_iff, beq_eq_false_iff_ne] at h0; simp; omega
    · simp only [Bool.or_eq_true, beq_iff_eq] at h1; simp; omega
    rw [← List.append_assoc]
    exact hI2
  intro hm a3 hs
  have S3 := S2.trans hs
  have hC3 := hC.same S3 (by decide)
  rw [by_miss ?mi2] at H
  rotate_left
  · rcases hm with hm | ⟨h1, h2⟩; exact .inl hm; right; simp only [Bool.or_eq_false_iff, beq_eq_false_iff_ne] at h1 h2; constructor <;> simp <;> omega
  clear hm hs
  show Code.wp _ _ _ _ _
  refine wp_seq (segA (lo := 279) (hi := 598) E hL hC3 hI hr0 hr1 ?_ ?_ ?_ ?_ ?_ ?n3 ?x3 ?y3)
  any_goals decide
  case x3 =>
    intro hh h1 a' w' hs hI2
    
    show Q (.exit 6) a' w'
    refine H (.exit 6) a' w' (.inr rfl) (S3.trans hs) ?_
    rw [by_one hh]
    rotate_left
    · simp; omega
    rw [wrap_add hr0 hr1 (by decide) (by decide)] at hI2
    exact hI2
  case y3 =>
    intro hh h1 a' w' hs hI2
    show Q (.exit 6) a' w'
    refine H (.exit 6) a' w' (.inr rfl) (S3.trans hs) ?_
    rw [by_two hh]
    rotate_left
    · subst h1; simp
    · simp; omega
    rw [← List.append_assoc]
    exact hI2
  intro hm a4 hs
  have S4 := S3.trans hs
  have hC4 := hC.same S4 (by decide)
  rw [by_miss ?mi3] at H
  rotate_left
  · rcases hm with hm | ⟨h1, h2⟩; exact .inl hm; right; constructor <;> simp <;> omega
  clear hm hs
  show Code.wp _ _ _ _ _
  refine wp_seq (segA (lo := 279) (hi := 598) E hL hC4 hI hr0 hr1 ?_ ?_ ?_ ?_ ?_ ?n4 ?x4 ?y4)
  any_goals decide
  case x4 =>
    intro hh h1 a' w' hs hI2
    
    show Q (.exit 6) a' w'
    refine H (.exit 6) a' w' (.inr rfl) (S4.trans hs) ?_
    rw [by_one hh]
    rotate_left
    · simp; omega
    rw [wrap_add hr0 hr1 (by decide) (by decide)] at hI2
    exact hI2
  case y4 =>
    intro hh h1 a' w' hs hI2
    show Q (.exit 6) a' w'
    refine H (.exit 6) a' w' (.inr rfl) (S4.trans hs) ?_
    rw [by_two hh]
    rotate_left
    · subst h1; simp
    · simp; omega
    rw [← List.append_assoc]
    exact hI2
  intro hm a5 hs
  have S5 := S4.trans hs
  have hC5 := hC.same S5 (by decide)
  rw [by_miss ?mi4] at H
  rotate_left
  · rcases hm with hm | ⟨h1, h2⟩; exact .inl hm; right; constructor <;> simp <;> omega
  clear hm hs
  show Code.wp _ _ _ _ _
  refine wp_seq (segA (lo := 279) (hi := 598) E hL hC5 hI hr0 hr1 ?_ ?_ ?_ ?_ ?_ ?n5 ?x5 ?y5)
  any_goals decide
  case x5 =>
    intro hh h1 a' w' hs hI2
    
    show Q (.exit 6) a' w'
    refine H (.exit 6) a' w' (.inr rfl) (S5.trans hs) ?_
    rw [by_one hh]
    rotate_left
    · simp; omega
    rw [wrap_add hr0 hr1 (by decide) (by decide)] at hI2
    exact hI2
  case y5 =>
    intro hh h1 a' w' hs hI2
    show Q (.exit 6) a' w'
    refine H (.exit 6) a' w' (.inr rfl) (S5.trans hs) ?_
    rw [by_two hh]
    rotate_left
    · subst h1; simp
    · simp; omega
    rw [← List.append_assoc]
    exact hI2
  intro hm a6 hs
  have S6 := S5.trans hs
  have hC6 := hC.same S6 (by decide)
  rw [by_miss ?mi5] at H
  rotate_left
  · rcases hm with hm | ⟨h1, h2⟩; exact .inl hm; right; constructor <;> simp <;> omega
  clear hm hs
  show Code.wp _ _ _ _ _
  refine wp_seq (segA (lo := 279) (hi := 598) E hL hC6 hI hr0 hr1 ?_ ?_ ?_ ?_ ?_ ?n6 ?x6 ?y6)
  any_goals decide
  case x6 =>
    intro hh h1 a' w' hs hI2
    
    show Q (.exit 6) a' w'
    refine H (.exit 6) a' w' (.inr rfl) (S6.trans hs) ?_
    rw [by_one hh]
    rotate_left
    · simp; omega
    rw [wrap_add hr0 hr1 (by decide) (by decide)] at hI2
    exact hI2
  case y6 =>
    intro hh h1 a' w' hs hI2
    show Q (.exit 6) a' w'
    refine H (.exit 6) a' w' (.inr rfl) (S6.trans hs) ?_
    rw [by_two hh]
    rotate_left
    · subst h1; simp
    · simp; omega
    rw [← List.append_assoc]
    exact hI2
  intro hm a7 hs
  have S7 := S6.trans hs
  have hC7 := hC.same S7 (by decide)
  rw [by_miss ?mi6] at H
  rotate_left
  · rcases hm with hm | ⟨h1, h2⟩; exact .inl hm; right; constructor <;> simp <;> omega
  clear hm hs
  show Code.wp _ _ _ _ _
  refine wp_seq (segA (lo := 279) (hi := 598) E hL hC7 hI hr0 hr1 ?_ ?_ ?_ ?_ ?_ ?n7 ?x7 ?y7)
  any_goals decide
  case x7 =>
    intro hh h1 a' w' hs hI2
    
    show Q (.exit 6) a' w'
    refine H (.exit 6) a' w' (.inr rfl) (S7.trans hs) ?_
    rw [by_one hh]
    rotate_left
    · simp; omega
    rw [wrap_add hr0 hr1 (by decide) (by decide)] at hI2
    exact hI2
  case y7 =>
    intro hh h1 a' w' hs hI2
    show Q (.exit 6) a' w'
    refine H (.exit 6) a' w' (.inr rfl) (S7.trans hs) ?_
    rw [by_two hh]
    rotate_left
    · subst h1; simp
    · simp; omega
    rw [← List.append_assoc]
    exact hI2
  intro hm a8 hs
  have S8 := S7.trans hs
  have hC8 := hC.same S8 (by decide)
  rw [by_miss ?mi7] at H
  rotate_left
  · rcases hm with hm | ⟨h1, h2⟩; exact .inl hm; right; constructor <;> simp <;> omega
  clear hm hs
  show Code.wp _ _ _ _ _
  refine wp_seq (segA (lo := 279) (hi := 598) E hL hC8 hI hr0 hr1 ?_ ?_ ?_ ?_ ?_ ?n8 ?x8 ?y8)
  any_goals decide
  case x8 =>
    intro hh h1 a' w' hs hI2
    
    show Q (.exit 6) a' w'
    refine H (.exit 6) a' w' (.inr rfl) (S8.trans hs) ?_
    rw [by_one hh]
    rotate_left
    · simp; omega
    rw [wrap_add hr0 hr1 (by decide) (by decide)] at hI2
    exact hI2
  case y8 =>
    intro hh h1 a' w' hs hI2
    show Q (.exit 6) a' w'
    refine H (.exit 6) a' w' (.inr rfl) (S8.trans hs) ?_
    rw [by_two hh]
    rotate_left
    · subst h1; simp
    · simp; omega
    rw [← List.append_assoc]
    exact hI2
  intro hm a9 hs
  have S9 := S8.trans hs
  have hC9 := hC.same S9 (by decide)
  rw [by_miss ?mi8] at H
  rotate_left
  · rcases hm with hm | ⟨h1, h2⟩; exact .inl hm; right; constructor <;> simp <;> omega
  clear hm hs
  show Code.wp _ _ _ _ _
  refine wp_seq (segA (lo := 279) (hi := 598) E hL hC9 hI hr0 hr1 ?_ ?_ ?_ ?_ ?_ ?n9 ?x9 ?y9)
  any_goals decide
  case x9 =>
    intro hh h1 a' w' hs hI2
    
    show Q (.exit 6) a' w'
    refine H (.exit 6) a' w' (.inr rfl) (S9.trans hs) ?_
    rw [by_one hh]
    rotate_left
    · simp; omega
    rw [wrap_add hr0 hr1 (by decide) (by decide)] at hI2
    exact hI2
  case y9 =>
    intro hh h1 a' w' hs hI2
    show Q (.exit 6) a' w'
    refine H (.exit 6) a' w' (.inr rfl) (S9.trans hs) ?_
    rw [by_two hh]
    rotate_left
    · subst h1; simp
    · simp; omega
    rw [← List.append_assoc]
    exact hI2
  intro hm a10 hs
  have S10 := S9.trans hs
  have hC10 := hC.same S10 (by decide)
  rw [by_miss ?mi9] at H
  rotate_left
  · rcases hm with hm | ⟨h1, h2⟩; exact .inl hm; right; constructor <;> simp <;> omega
  clear hm hs
  show Code.wp _ _ _ _ _
  refine wp_seq (segA (lo := 279) (hi := 598) E hL hC10 hI hr0 hr1 ?_ ?_ ?_ ?_ ?_ ?n10 ?x10 ?y10)
  any_goals decide
  case x10 =>
    intro hh h1 a' w' hs hI2
    
    show Q (.exit 6) a' w'
    refine H (.exit 6) a' w' (.inr rfl) (S10.trans hs) ?_
    rw [by_one hh]
    rotate_left
    · simp; omega
    rw [wrap_add hr0 hr1 (by decide) (by decide)] at hI2
    exact hI2
  case y10 =>
    intro hh h1 a' w' hs hI2
    show Q (.exit 6) a' w'
    refine H (.exit 6) a' w' (.inr rfl) (S10.trans hs) ?_
    rw [by_two hh]
    rotate_left
    · subst h1; simp
    · simp; omega
    rw [← List.append_assoc]
    exact hI2
  intro hm a11 hs
  have S11 := S10.trans hs
  have hC11 := hC.same S11 (by decide)
  rw [by_miss ?mi10] at H
  rotate_left
  · rcases hm with hm | ⟨h1, h2⟩; exact .inl hm; right; constructor <;> simp <;> omega
  clear hm hs
  show Code.wp _ _ _ _ _
  refine wp_seq (segA (lo := 279) (hi := 598) E hL hC11 hI hr0 hr1 ?_ ?_ ?_ ?_ ?_ ?n11 ?x11 ?y11)
  any_goals decide
  case x11 =>
    intro hh h1 a' w' hs hI2
    
    show Q (.exit 6) a' w'
    refine H (.exit 6) a' w' (.inr rfl) (S11.trans hs) ?_
    rw [by_one hh]
    rotate_left
    · simp; omega
    rw [wrap_add hr0 hr1 (by decide) (by decide)] at hI2
    exact hI2
  case y11 =>
    intro hh h1 a' w' hs hI2
    show Q (.exit 6) a' w'
    refine H (.exit 6) a' w' (.inr rfl) (S11.trans hs) ?_
    rw [by_two hh]
    rotate_left
    · subst h1; simp
    · simp; omega
    rw [← List.append_assoc]
    exact hI2
  intro hm a12 hs
  have S12 := S11.trans hs
  have hC12 := hC.same S12 (by decide)
  rw [by_miss ?mi11] at H
  rotate_left
  · rcases hm with hm | ⟨h1, h2⟩; exact .inl hm; right; constructor <;> simp <;> omega
  clear hm hs
  show Code.wp _ _ _ _ _
  refine wp_seq (segA (lo := 279) (hi := 598) E hL hC12 hI hr0 hr1 ?_ ?_ ?_ ?_ ?_ ?n12 ?x12 ?y12)
  any_goals decide
  case x12 =>
    intro hh h1 a' w' hs hI2
    
    show Q (.exit 6) a' w'
    refine H (.exit 6) a' w' (.inr rfl) (S12.trans hs) ?_
    rw [by_one hh]
    rotate_left
    · simp; omega
    rw [wrap_add hr0 hr1 (by decide) (by decide)] at hI2
    exact hI2
  case y12 =>
    intro hh h1 a' w' hs hI2
    show Q (.exit 6) a' w'
    refine H (.exit 6) a' w' (.inr rfl) (S12.trans hs) ?_
    rw [by_two hh]
    rotate_left
    · subst h1; simp
    · simp; omega
    rw [← List.append_assoc]
    exact hI2
  intro hm a13 hs
  have S13 := S12.trans hs
  have hC13 := hC.same S13 (by decide)
  rw [by_miss ?mi12] at H
  rotate_left
  · rcases hm with hm | ⟨h1, h2⟩; exact .inl hm; right; constructor <;> simp <;> omega
  clear hm hs
  show Code.wp _ _ _ _ _
  refine wp_seq (segA (lo := 279) (hi := 598) E hL hC13 hI hr0 hr1 ?_ ?_ ?_ ?_ ?_ ?n13 ?x13 ?y13)
  any_goals decide
  case x13 =>
    intro hh h1 a' w' hs hI2
    
    show Q (.exit 6) a' w'
    refine H (.exit 6) a' w' (.inr rfl) (S13.trans hs) ?_
    rw [by_one hh]
    rotate_left
    · simp; omega
    rw [wrap_add hr0 hr1 (by decide) (by decide)] at hI2
    exact hI2
  case y13 =>
    intro hh h1 a' w' hs hI2
    show Q (.exit 6) a' w'
    refine H (.exit 6) a' w' (.inr rfl) (S13.trans hs) ?_
    rw [by_two hh]
    rotate_left
    · subst h1; simp
    · simp; omega
    rw [← List.append_assoc]
    exact hI2
  intro hm a14 hs
  have S14 := S13.trans hs
  have hC14 := hC.same S14 (by decide)
  rw [by_miss ?mi13] at H
  rotate_left
  · rcases hm with hm | ⟨h1, h2⟩; exact .inl hm; right; constructor <;> simp <;> omega
  clear hm hs
  show Code.wp _ _ _ _ _
  refine wp_seq (segB (lo := 279) (hi := 598) E hL hC14 hI hr0 hr1 ?_ ?_ ?_ ?_ ?_ ?n14 ?x14 ?y14)
  any_goals decide
  case x14 =>
    intro hh h0  a' w' hs hI2
    have h1 := h0
    show Q (.exit 6) a' w'
    refine H (.exit 6) a' w' (.inr rfl) (S14.trans hs) ?_
    rw [by_one hh]
    rotate_left
    · simp only [Bool.or_eq_true, beq_iff_eq] at h1; simp; omega
    rw [wrap_add hr0 hr1 (by decide) (by decide)] at hI2
    exact hI2
  case y14 =>
    intro hh h0 h1 a' w' hs hI2
    show Q (.exit 6) a' w'
    refine H (.exit 6) a' w' (.inr rfl) (S14.trans hs) ?_
    rw [by_two hh]
    rotate_left
    · simp only [Bool.or_eq_false_iff, beq_eq_false_iff_ne] at h0; simp; omega
    · simp only [Bool.or_eq_true, beq_iff_eq] at h1; simp; omega
    rw [← List.append_assoc]
    exact hI2
  intro hm a15 hs
  have S15 := S14.trans hs
  have hC15 := hC.same S15 (by decide)
  rw [by_miss ?mi14] at H
  rotate_left
  · rcases hm with hm | ⟨h1, h2⟩; exact .inl hm; right; simp only [Bool.or_eq_false_iff, beq_eq_false_iff_ne] at h1 h2; constructor <;> simp <;> omega
  clear hm hs
  show Code.wp _ _ _ _ _
  refine wp_seq (segA (lo := 279) (hi := 598) E hL hC15 hI hr0 hr1 ?_ ?_ ?_ ?_ ?_ ?n15 ?x15 ?y15)
  any_goals decide
  case x15 =>
    intro hh h1 a' w' hs hI2
    
    show Q (.exit 6) a' w'
    refine H (.exit 6) a' w' (.inr rfl) (S15.trans hs) ?_
    rw [by_one hh]
    rotate_left
    · simp; omega
    rw [wrap_add hr0 hr1 (by decide) (by decide)] at hI2
    exact hI2
  case y15 =>
    intro hh h1 a' w' hs hI2
    show Q (.exit 6) a' w'
    refine H (.exit 6) a' w' (.inr rfl) (S15.trans hs) ?_
    rw [by_two hh]
    rotate_left
    · subst h1; simp
    · simp; omega
    rw [← List.append_assoc]
    exact hI2
  intro hm a16 hs
  have S16 := S15.trans hs
  have hC16 := hC.same S16 (by decide)
  rw [by_miss ?mi15] at H
  rotate_left
  · rcases hm with hm | ⟨h1, h2⟩; exact .inl hm; right; constructor <;> simp <;> omega
  clear hm hs
  show Code.wp _ _ _ _ _
  refine wp_seq (segA (lo := 279) (hi := 598) E hL hC16 hI hr0 hr1 ?_ ?_ ?_ ?_ ?_ ?n16 ?x16 ?y16)
  any_goals decide
  case x16 =>
    intro hh h1 a' w' hs hI2
    
    show Q (.exit 6) a' w'
    refine H (.exit 6) a' w' (.inr rfl) (S16.trans hs) ?_
    rw [by_one hh]
    rotate_left
    · simp; omega
    rw [wrap_add hr0 hr1 (by decide) (by decide)] at hI2
    exact hI2
  case y16 =>
    intro hh h1 a' w' hs hI2
    show Q (.exit 6) a' w'
    refine H (.exit 6) a' w' (.inr rfl) (S16.trans hs) ?_
    rw [by_two hh]
    rotate_left
    · subst h1; simp
    · simp; omega
    rw [← List.append_assoc]
    exact hI2
  intro hm a17 hs
  have S17 := S16.trans hs
  have hC17 := hC.same S17 (by decide)
  rw [by_miss ?mi16] at H
  rotate_left
  · rcases hm with hm | ⟨h1, h2⟩; exact .inl hm; right; constructor <;> simp <;> omega
  clear hm hs
  show Code.wp _ _ _ _ _
  refine wp_seq (segC (lo := 279) (hi := 598) E hL hC17 hI hr0 hr1 ?_ ?_ ?_ ?_ ?_ ?_ ?n17 ?x17 ?y17)
  any_goals decide
  case x17 =>
    intro hh h1 a' w' hs hI2
    
    show Q (.exit 6) a' w'
    refine H (.exit 6) a' w' (.inr rfl) (S17.trans hs) ?_
    rw [by_one hh]
    rotate_left
    · simp; omega
    subst h1
    exact hI2
  case y17 =>
    intro hh h1 a' w' hs hI2
    show Q (.exit 6) a' w'
    refine H (.exit 6) a' w' (.inr rfl) (S17.trans hs) ?_
    rw [by_two hh]
    rotate_left
    · subst h1; simp
    · simp; omega
    rw [← List.append_assoc]
    exact hI2
  intro hm a18 hs
  have S18 := S17.trans hs
  have hC18 := hC.same S18 (by decide)
  rw [by_miss ?mi17] at H
  rotate_left
  · rcases hm with hm | ⟨h1, h2⟩; exact .inl hm; right; constructor <;> simp <;> omega
  clear hm hs
  show Code.wp _ _ _ _ _
  refine wp_seq (segD (lo := 279) (hi := 598) E hL hC18 hI hr0 hr1 ?_ ?_ ?_ ?_ ?n18 ?x18 ?y18)
  any_goals decide
  case x18 =>
    intro hh h0  a' w' hs hI2
    have h1 := h0
    show Q (.exit 6) a' w'
    refine H (.exit 6) a' w' (.inr rfl) (S18.trans hs) ?_
    rw [by_one hh]
    rotate_left
    · exact (mem_ctls _).2 h1
    rw [Int.add_comm, wrap_add hr0 hr1 (by decide) (by decide)] at hI2
    exact hI2
  case y18 =>
    intro hh h0 h1 a' w' hs hI2
    show Q (.exit 6) a' w'
    refine H (.exit 6) a' w' (.inr rfl) (S18.trans hs) ?_
    rw [by_two hh]
    rotate_left
    · rw [mem_ctls, h0]; decide
    · exact (mem_signs _).2 h1
    rw [← List.append_assoc]
    exact hI2
  intro hm a19 hs
  have S19 := S18.trans hs
  have hC19 := hC.same S19 (by decide)
  rw [by_miss ?mi18] at H
  rotate_left
  · rcases hm with hm | ⟨h1, h2⟩; exact .inl hm; right; rw [mem_ctls, mem_signs]; exact ⟨by rw [h1]; decide, by rw [h2]; decide⟩
  clear hm hs
  show Code.wp _ _ _ _ _
  refine r_wmove E (by omega) hC19 hI (by decide) (by decide) (by omega) (by omega) fun v w' hI2 => ?_
  exact H .normal _ _ (.inl rfl) ((S19.put _ _ (by decide) (by decide)).put _ _ (by decide) (by decide)) hI2
end Go.Proofs.YtlgoghonnnobfaaDoor.Enc
namespace Go.Proofs.YtlgoghonnnobfaaDoor.Fr
open Go Go.RowKit
set_option linter.unusedVariables false
set_option linter.unusedSimpArgs false
/-! ### further operations, over frames that are not written out -/
section
variable {P : Program} {a : Act} {w : World} {x y z : Operand} {d : Option Tmp} {t t2 ty : TypeId} {pos : String} {aft : Array Edge} {g : Option (Nat × Bool)}
theorem run_eqls {s1 s2 : ByteArray} (ht : P.underlying t = some .string) (hx : a.eval x = .string s1) (hy : a.eval y = .string s2) :
    (execOp a.eval { dst := d, op := .binOp .eql t x y t2, type := ty, pos := pos, after := aft, guard := g }).run P w = .ok (.value (.bool (s1.toList == s2.toList))) w := by
  simp only [execOp, hx, hy]
  simp [go_sem, run_underlying ht, ht]
theorem run_neqs {s1 s2 : ByteArray} (ht : P.underlying t = some .string) (hx : a.eval x = .string s1) (hy : a.eval y = .string s2) :
    (execOp a.eval { dst := d, op := .binOp .neq t x y t2, type := ty, pos := pos, after := aft, guard := g }).run P w = .ok (.value (.bool (s1.toList != s2.toList))) w := by
  simp only [execOp, hx, hy]
  simp [go_sem, run_underlying ht, ht]
  cases h : (s1.toList == s2.toList) <;> simp [bne, h]
theorem run_eqli {k : IntKind} {m n : Int} (ht : P.underlying t = some (.int k)) (hx : a.eval x = .int k m) (hy : a.eval y = .int k n) :
    (execOp a.eval { dst := d, op := .binOp .eql t x y t2, type := ty, pos := pos, after := aft, guard := g }).run P w = .ok (.value (.bool (m == n))) w := by
  simp only [execOp, hx, hy]
  simp [go_sem, run_underlying ht, ht]
theorem run_addi {k : IntKind} {m n : Int} (ht : P.underlying t = some (.int k)) (hx : a.eval x = .int k m) (hy : a.eval y = .int k n) :
    (execOp a.eval { dst := d, op := .binOp .add t x y t2, type := ty, pos := pos, after := aft, guard := g }).run P w = .ok (.value (.int k (k.wrap (m + n)))) w := by
  simp only [execOp, hx, hy]
  simp [go_sem, run_underlying ht, ht]
theorem run_subi {k : IntKind} {m n : Int} (ht : P.underlying t = some (.int k)) (hx : a.eval x = .int k m) (hy : a.eval y = .int k n) :
    (execOp a.eval { dst := d, op := .binOp .sub t x y t2, type := ty, pos := pos, after := aft, guard := g }).run P w = .ok (.value (.int k (k.wrap (m - n)))) w := by
  simp only [execOp, hx, hy]
  simp [go_sem, run_underlying ht, ht]
theorem run_len {s : ByteArray} (ht : P.underlying t = some .string) (hx : a.eval x = .string s) :
    (execOp a.eval { dst := d, op := .call { callee := .builtin .len, args := #[x], argTypes := #[t] }, type := ty, pos := pos, after := aft, guard := g }).run P w = .ok (.value (.int .i64 s.size)) w := by
  simp only [execOp, resolve, show (#[x]).map a.eval = #[Value.string s] from by simp only [List.map_toArray, List.map_cons, List.map_nil, hx]]
  simp [go_sem, ht]
theorem run_extract {vs : Array Value} {i : Nat} {v : Value} (hx : a.eval x = .tuple vs) (hv : vs[i]? = some v) :
    (execOp a.eval { dst := d, op := .extract x i, type := ty, pos := pos, after := aft, guard := g }).run P w = .ok (.value v) w := by
  simp only [execOp, hx]
  simp [go_sem, hv]
theorem run_from {s : ByteArray} {i : Nat} (ht : P.underlying t = some .string) (hx : a.eval x = .string s) (hy : a.eval y = .int .i64 i) (hi : i ≤ s.size) :
    (execOp a.eval { dst := d, op := .slice t x (some y) none none, type := ty, pos := pos, after := aft, guard := g }).run P w = .ok (.value (.string (s.extract i s.size))) w := by
  simp only [execOp, hx, hy, Option.map_some, Option.map_none]
  simp [go_sem, ht, hi]
theorem run_to {s : ByteArray} {i : Nat} (ht : P.underlying t = some .string) (hx : a.eval x = .string s) (hy : a.eval y = .int .i64 i) (hi : i ≤ s.size) :
    (execOp a.eval { dst := d, op := .slice t x none (some y) none, type := ty, pos := pos, after := aft, guard := g }).run P w = .ok (.value (.string (s.extract 0 i))) w := by
  simp only [execOp, hx, hy, Option.map_some, Option.map_none]
  simp [go_sem, ht, hi]
theorem run_sub {s : ByteArray} {i j : Nat} (ht : P.underlying t = some .string) (hx : a.eval x = .string s) (hy : a.eval y = .int .i64 i) (hz : a.eval z = .int .i64 j) (hi : i ≤ j) (hj : j ≤ s.size) :
    (execOp a.eval { dst := d, op := .slice t x (some y) (some z) none, type := ty, pos := pos, after := aft, guard := g }).run P w = .ok (.value (.string (s.extract i j))) w := by
  simp only [execOp, hx, hy, hz, Option.map_some, Option.map_none]
  simp [go_sem, ht, hi, hj]
theorem run_index {s : ByteArray} {i : Nat} (ht : P.underlying t = some .string) (hx : a.eval x = .string s) (hy : a.eval y = .int .i64 i) (hi : i < s.size) :
    (execOp a.eval { dst := d, op := .index t x y, type := ty, pos := pos, after := aft, guard := g }).run P w = .ok (.value (.int .u8 (s[i].toNat : Int))) w := by
  simp only [execOp, hx, hy]
  simp [go_sem, ht, hi]
theorem run_box {k : IntKind} {n : Int} (ht : P.underlying t = some (.int k)) (hx : a.eval x = .int k n) :
    (execOp a.eval { dst := d, op := .box t x, type := ty, pos := pos, after := aft, guard := g }).run P w = .ok (.value (.pointer (some ⟨w.heap.size, 0, none⟩))) (w.alloc (.cells #[.int k n] t)) := by
  simp only [execOp, hx]
  simp [go_sem, ht]
theorem run_mk {v : Value} {t' : TypeId} (ht : P.underlying t = some (.pointer t')) (hx : a.eval x = v) :
    (execOp a.eval { dst := d, op := .makeInterface t x, type := ty, pos := pos, after := aft, guard := g }).run P w = .ok (.value (.iface t v)) w := by
  simp only [execOp, hx]
  simp [go_sem, Instr.makeInterface, run_underlying ht]
theorem run_range {s : ByteArray} (ht : P.underlying t = some .string) (hx : a.eval x = .string s) :
    (execOp a.eval { dst := d, op := .range t x, type := ty, pos := pos, after := aft, guard := g }).run P w = .ok (.value (.pointer (some ⟨w.heap.size, 0, none⟩))) (w.alloc (.stringIter s 0)) := by
  simp only [execOp, hx]
  simp [go_sem, ht]
  rfl
end
end Go.Proofs.YtlgoghonnnobfaaDoor.Fr
namespace Go.Proofs.YtlgoghonnnobfaaDoor.Enc
open Go Go.RowKit Go.Proofs.YtlgoghonnnobfaaDoor.Fr
set_option linter.unusedVariables false
set_option linter.unusedSimpArgs false
/-! ### what is at a place of a text -/
theorem dec_pos (s : ByteArray) (pos : Nat) (h : pos < s.size) : 1 ≤ (Utf8.decode s pos).2 := Lib.decode_width_pos s pos h
theorem dec_fit (s : ByteArray) (pos : Nat) (h : pos < s.size) : pos + (Utf8.decode s pos).2 ≤ s.size := by
  have := Lib.decodeN_le_n' (s.size - pos) (s.get! pos).toNat (s.get! (pos + 1)).toNat (s.get! (pos + 2)).toNat (s.get! (pos + 3)).toNat (by omega)
  rw [Lib.decode_at]; omega
theorem get_lt (s : ByteArray) (i : Nat) : (s.get! i).toNat < 256 := (s.get! i).toNat_lt
theorem get_out (s : ByteArray) (i : Nat) (h : s.size ≤ i) : s.get! i = 0 := by
  simp only [ByteArray.get!, getElem!_def]
  rw [Array.getElem?_eq_none h]
  rfl
/-- U+FFFD comes of its three bytes, or of a byte that is no part of UTF-8. -/
theorem decN_err (n b0 b1 b2 b3 : Nat) (h0 : b0 < 256) (h1 : b1 < 256) (h2 : b2 < 256) (h : (Lib.decodeN n b0 b1 b2 b3).1 = 65533) :
    (Lib.decodeN n b0 b1 b2 b3).2 = 1 ∧ ¬ (b0 = 239 ∧ b1 = 191 ∧ b2 = 189 ∧ 3 ≤ n) ∨ (Lib.decodeN n b0 b1 b2 b3).2 = 3 ∧ b0 = 239 ∧ b1 = 191 ∧ b2 = 189 ∧ 3 ≤ n := by
  generalize hd : Lib.decodeN n b0 b1 b2 b3 = d at h ⊢
  unfold Lib.decodeN at hd
  repeat' (split at hd)
  all_goals (subst hd; dsimp only at h ⊢)
  all_goals first | omega | (left; refine ⟨rfl, ?_⟩; omega) | (right; refine ⟨rfl, ?_⟩; omega) | trace_state
theorem dec_err (s : ByteArray) (pos : Nat) (hp : pos < s.size) (h : (Utf8.decode s pos).1 = 65533) :
    (Utf8.decode s pos).2 = 1 ∧ ¬ ((s.get! pos).toNat = 239 ∧ (s.get! (pos + 1)).toNat = 191 ∧ (s.get! (pos + 2)).toNat = 189 ∧ pos + 3 ≤ s.size) ∨ (Utf8.decode s pos).2 = 3 ∧ (s.get! pos).toNat = 239 ∧ (s.get! (pos + 1)).toNat = 191 ∧ (s.get! (pos + 2)).toNat = 189 ∧ pos + 3 ≤ s.size := by
  rw [Lib.decode_at] at h ⊢
  have := decN_err (s.size - pos) (s.get! pos).toNat (s.get! (pos + 1)).toNat (s.get! (pos + 2)).toNat (s.get! (pos + 3)).toNat (get_lt _ _) (get_lt _ _) (get_lt _ _) h
  omega
theorem ext_list (s : ByteArray) (i n : Nat) (h : i + n ≤ s.size) : (s.extract i (i + n)).toList = (List.range n).map fun k => s.get! (i + k) := by
  rw [Lib.extract_toList]
  apply List.ext_getElem
  · simp; have : s.data.size = s.size := rfl; omega
  · intro k h1 h2
    simp only [List.length_map, List.length_range] at h2
    simp only [List.getElem_take, List.getElem_drop, List.getElem_map, List.getElem_range]
    rw [← Lib.getD_get!' s (i + k)]
    have : i + k < s.data.toList.length := by simp; have : s.data.size = s.size := rfl; omega
    rw [List.getD_eq_getElem?_getD, List.getElem?_eq_getElem this]
    rfl
/-- Is the text at a place U+FFFD's own. -/
theorem own_err (s : ByteArray) (pos : Nat) (h : pos + 3 ≤ s.size) : ((s.extract pos (pos + 3)).toList == [239, 191, 189]) = decide ((s.get! pos).toNat = 239 ∧ (s.get! (pos + 1)).toNat = 191 ∧ (s.get! (pos + 2)).toNat = 189) := by
  rw [ext_list s pos 3 h, Bool.eq_iff_iff]
  simp only [beq_iff_eq, decide_eq_true_eq]
  have e : (List.range 3).map (fun k => s.get! (pos + k)) = [s.get! pos, s.get! (pos + 1), s.get! (pos + 2)] := rfl
  rw [e]
  simp only [List.cons.injEq, and_true, ← UInt8.toNat_inj]
  rfl
/-- A byte that is no part of UTF-8, quoted. -/
def hexc (n : Nat) : UInt8 := if n < 10 then UInt8.ofNat (48 + n) else UInt8.ofNat (55 + n)
def quoted (b : UInt8) : List UInt8 := [226, 128, 155, hexc (b.toNat / 16), hexc (b.toNat % 16)]
/-- How what stands at a place of a text is written. -/
def unit (m : Int) (s : ByteArray) (pos : Nat) : List UInt8 :=
  if (Utf8.decode s pos).1 = 0 then Lib.encodeRune 9216
  else if (Utf8.decode s pos).1 = 9216 ∨ (Utf8.decode s pos).1 = 8219 then Lib.encodeRune 8219 ++ Lib.encodeRune (Utf8.decode s pos).1
  else if (Utf8.decode s pos).1 = 65533 ∧ (Utf8.decode s pos).2 = 1 then (if hb m 16777216 = true then quoted (s.get! pos) else [s.get! pos])
  else by' m (Utf8.decode s pos).1 bits
end Go.Proofs.YtlgoghonnnobfaaDoor.Enc
namespace Go.Proofs.YtlgoghonnnobfaaDoor.Fr
open Go Go.RowKit
set_option linter.unusedVariables false
set_option linter.unusedSimpArgs false
/-! ### the pieces that the predicates on runes are made of: the mask behind slot 1, the rune in slot 0 -/
section
variable {Q : Exit → Act → World → Prop} {a : Act} {w : World} {lo hi : Nat} {m r : Int} {pm : Addr}
theorem r_has1 {id s : Nat} {m f : Int} {p0 p1 : String} {pm : Addr} (hs : s + 1 < a.tmps.size) (h2 : a.eval (.tmp 1) = .pointer (some pm)) (hc : w.cell? pm = some (.int .u64 m))
    (h : Q .normal ((a.put (some s) (.int .u64 m)).put (some (s + 1)) (.bool (hb m f))) w) :
    (Code.region id #[{ dst := some s, op := .load 39 (.tmp 1), type := 39, pos := p0, after := #[], guard := none }, { dst := some (s + 1), op := .call { callee := .value (.func 40), args := #[.tmp s, .const (.int .u64 f)], argTypes := #[39, 39] }, type := 4, pos := p1, after := #[{ on := 0, ground := .data }], guard := none }] false).wp Tryd.prog Q a w := by
  refine wp_region_lit ?_
  refine load Tryd.underlying39 h2 hc ?_
  refine call enters40 ?_
  have e : (#[Operand.tmp s, .const (.int .u64 f)]).map (a.put (some s) (.int .u64 m)).eval = #[.int .u64 m, .int .u64 f] := by
    simp [eval_same _ _ _ (show s < a.tmps.size by omega), eval_const]
  rw [e]
  refine (has_any m f w).mono ?_
  rintro e w' ⟨rfl, rfl⟩
  exact ⟨_, rfl, h⟩
theorem r_true {id : Nat} {p : String} (h : Q .ret (a.put (some 3) (.bool true)) w) : (((Code.region (id) #[{ dst := some 3, op := .assign (.const (.bool true)), type := 4, pos := p, after := #[], guard := none }] false)).seq Code.ret).wp Tryd.prog Q a w := by
  refine wp_seq (wp_region_lit (assign ?_))
  refine wpList_nil ?_
  show Code.wp _ _ _ _ _
  exact wp_ret h
/-- The frame of a predicate. -/
structure P0 (pm : Addr) (r : Int) (hi : Nat) (a : Act) : Prop where
  size : hi < a.tmps.size
  s0 : a.eval (.tmp 0) = .int .i32 r
  s1 : a.eval (.tmp 1) = .pointer (some pm)
  defers : a.defers = []
theorem P0.same {a' : Act} (h : P0 pm r hi a) (hs : Same 4 hi a a') : P0 pm r hi a' := ⟨by rw [hs.size]; exact h.size, (hs.slot 0 (by omega)).trans h.s0, (hs.slot 1 (by omega)).trans h.s1, hs.defers.trans h.defers⟩
theorem r_or4 {id x s t : Nat} {c1 c2 c3 c4 : Int} {p0 p1 p2 p3 p4 p5 p6 p7 : String} (hd : x < s ∧ x < t ∧ t < s) (hi1 : lo ≤ t ∧ s + 3 ≤ hi ∧ hi < a.tmps.size) (hx : a.eval (.tmp x) = .int .i32 r)
    (h : ∀ a', Same lo hi a a' → a'.eval (.tmp t) = .bool (r == c1 || r == c2 || r == c3 || r == c4) → Q .normal a' w) :
    ((Code.region (id) #[{ dst := some (s), op := .binOp .eql 21 (.tmp (x)) (.const (.int .i32 c1)) 21, type := 4, pos := p0, after := #[], guard := none }, { dst := some (t), op := .assign (.tmp (s)), type := 4, pos := p1, after := #[{ on := 0, ground := .data }], guard := none }] false).seq (Code.cond (.tmp t) Code.skip ((Code.region (id + 1) #[{ dst := some (s + 1), op := .binOp .eql 21 (.tmp (x)) (.const (.int .i32 c2)) 21, type := 4, pos := p2, after := #[], guard := none }, { dst := some (t), op := .assign (.tmp (s + 1)), type := 4, pos := p3, after := #[{ on := 0, ground := .data }], guard := none }] false).seq (Code.cond (.tmp t) Code.skip ((Code.region (id + 2) #[{ dst := some (s + 2), op := .binOp .eql 21 (.tmp (x)) (.const (.int .i32 c3)) 21, type := 4, pos := p4, after := #[], guard := none }, { dst := some (t), op := .assign (.tmp (s + 2)), type := 4, pos := p5, after := #[{ on := 0, ground := .data }], guard := none }] false).seq (Code.cond (.tmp t) Code.skip (Code.region (id + 3) #[{ dst := some (s + 3), op := .binOp .eql 21 (.tmp (x)) (.const (.int .i32 c4)) 21, type := 4, pos := p6, after := #[], guard := none }, { dst := some (t), op := .assign (.tmp (s + 3)), type := 4, pos := p7, after := #[{ on := 0, ground := .data }], guard := none }] false))))))).wp Tryd.prog Q a w := by
  have one : ∀ (b : Act) (u : Nat) (c : Int), Same lo hi a b → s ≤ u → u ≤ s + 3 → b.eval (.tmp x) = .int .i32 r →
      Same lo hi a ((b.put (some u) (.bool (r == c))).put (some t) (.bool (r == c))) ∧ ((b.put (some u) (.bool (r == c))).put (some t) (.bool (r == c))).eval (.tmp x) = .int .i32 r ∧ ((b.put (some u) (.bool (r == c))).put (some t) (.bool (r == c))).eval (.tmp t) = .bool (r == c) := by
    intro b u c hb h1 h2 hxb
    refine ⟨(hb.put _ _ (by omega) (by omega)).put _ _ (by omega) (by omega), ?_, eval_same _ _ _ (by rw [size_put, hb.size]; omega)⟩
    rw [eval_other _ _ _ _ (by omega), eval_other _ _ _ _ (by omega)]; exact hxb
  obtain ⟨i1, i2, i3⟩ := one a s c1 (Same.refl a) (by omega) (by omega) hx
  refine wp_seq (r_eq (by omega) hx ?_)
  show Code.wp _ _ _ _ _
  generalize (a.put (some s) (.bool (r == c1))).put (some t) (.bool (r == c1)) = a1 at i1 i2 i3
  refine wp_cond i3 ?_
  by_cases k1 : r = c1
  · rw [if_pos (by simpa using k1)]; exact wp_skip (h _ i1 (by rw [i3]; simp [k1]))
  rw [if_neg (by simpa using k1)]
  obtain ⟨j1, j2, j3⟩ := one a1 (s + 1) c2 i1 (by omega) (by omega) i2
  refine wp_seq (r_eq (by rw [i1.size]; omega) i2 ?_)
  show Code.wp _ _ _ _ _
  generalize (a1.put (some (s + 1)) (.bool (r == c2))).put (some t) (.bool (r == c2)) = a2 at j1 j2 j3
  refine wp_cond j3 ?_
  by_cases k2 : r = c2
  · rw [if_pos (by simpa using k2)]; exact wp_skip (h _ j1 (by rw [j3]; simp [k2]))
  rw [if_neg (by simpa using k2)]
  obtain ⟨l1, l2, l3⟩ := one a2 (s + 2) c3 j1 (by omega) (by omega) j2
  refine wp_seq (r_eq (by rw [j1.size]; omega) j2 ?_)
  show Code.wp _ _ _ _ _
  generalize (a2.put (some (s + 2)) (.bool (r == c3))).put (some t) (.bool (r == c3)) = a3 at l1 l2 l3
  refine wp_cond l3 ?_
  by_cases k3 : r = c3
  · rw [if_pos (by simpa using k3)]; exact wp_skip (h _ l1 (by rw [l3]; simp [k3]))
  rw [if_neg (by simpa using k3)]
  obtain ⟨n1, n2, n3⟩ := one a3 (s + 3) c4 l1 (by omega) (by omega) l2
  refine r_eq (by rw [l1.size]; omega) l2 ?_
  exact h _ n1 (by rw [n3]; simp [k1, k2, k3])
theorem q1 {id bk s : Nat} {f c1 : Int} {p0 p1 p2 p3 p4 p5 : String} (hc : w.cell? pm = some (.int .u64 m)) (hA : P0 pm r hi a) (hs : 4 ≤ s) (hsN : s + 4 ≤ hi)
    (hn : (hb m f = false ∨ (r == c1) = false) → ∀ a', Same 4 hi a a' → Q .normal a' w)
    (hx : hb m f = true → (r == c1) = true → ∀ a', Same 4 hi a a' → Q .ret (a'.put (some 3) (.bool true)) w) :
    ((Code.region id #[{ dst := some s, op := .load 39 (.tmp 1), type := 39, pos := p0, after := #[], guard := none }, { dst := some (s + 1), op := .call { callee := .value (.func 40), args := #[.tmp s, .const (.int .u64 f)], argTypes := #[39, 39] }, type := 4, pos := p1, after := #[{ on := 0, ground := .data }], guard := none }] false).seq (Code.cond (.tmp (s + 1)) ((Code.region (id + 1) #[{ dst := some (s + 2), op := .move (.tmp 0), type := 21, pos := p2, after := #[], guard := none }] false).seq (Code.block bk ((Code.region (id + 2) #[{ dst := some (s + 4), op := .binOp .eql 21 (.tmp (s + 2)) (.const (.int .i32 c1)) 21, type := 4, pos := p3, after := #[], guard := none }, { dst := some (s + 3), op := .assign (.tmp (s + 4)), type := 4, pos := p4, after := #[{ on := 0, ground := .data }], guard := none }] false).seq (Code.cond (.tmp (s + 3)) ((Code.region (id + 3) #[{ dst := some 3, op := .assign (.const (.bool true)), type := 4, pos := p5, after := #[], guard := none }] false).seq Code.ret) Code.skip)))) Code.skip)).wp Tryd.prog Q a w := by
  have hN := hA.size
  refine wp_seq (r_has1 (by omega) hA.s1 hc ?_)
  show Code.wp _ _ _ _ _
  refine wp_cond (eval_same _ _ _ (by rw [size_put]; omega)) ?_
  have s0 : Same 4 hi a ((a.put (some s) (.int .u64 m)).put (some (s + 1)) (.bool (hb m f))) := ((Same.refl a).put _ _ (by omega) (by omega)).put _ _ (by omega) (by omega)
  generalize (a.put (some s) (.int .u64 m)).put (some (s + 1)) (.bool (hb m f)) = a1 at s0
  have hA1 := hA.same s0
  cases hh : hb m f with
  | false => exact wp_skip (hn (.inl hh) _ s0)
  | true =>
    rw [if_pos rfl]
    refine wp_seq (r_move ?_)
    show Code.wp _ _ _ _ _
    rw [hA1.s0]
    have s1 := s0.put (s + 2) (.int .i32 r) (by omega) (by omega)
    have e1 := eval_same a1 (s + 2) (.int .i32 r) (by rw [s0.size]; omega)
    generalize a1.put (some (s + 2)) (.int .i32 r) = a2 at s1 e1
    refine wp_block ?_
    refine wp_seq (r_eq (by rw [s1.size]; have := hA.size; omega) e1 ?_)
    show Code.wp _ _ _ _ _
    have s2 := (s1.put (s + 4) (.bool (r == c1)) (by omega) (by omega)).put (s + 3) (.bool (r == c1)) (by omega) (by omega)
    have t3 := eval_same (a2.put (some (s + 4)) (.bool (r == c1))) (s + 3) (.bool (r == c1)) (by rw [size_put, s1.size]; have := hA.size; omega)
    generalize (a2.put (some (s + 4)) (.bool (r == c1))).put (some (s + 3)) (.bool (r == c1)) = a3 at s2 t3
    refine wp_cond t3 ?_
    cases h1 : (r == c1) with
    | true =>
      rw [if_pos rfl]
      refine r_true ?_
      exact hx hh h1 _ s2
    | false =>
      rw [if_neg (by simp)]
      exact wp_skip (hn (.inr h1) _ s2)
theorem q2 {id bk s : Nat} {f c1 c2 : Int} {p0 p1 p2 p3 p4 p5 p6 p7 : String} (hc : w.cell? pm = some (.int .u64 m)) (hA : P0 pm r hi a) (hs : 4 ≤ s) (hsN : s + 5 ≤ hi)
    (hn : (hb m f = false ∨ (r == c1 || r == c2) = false) → ∀ a', Same 4 hi a a' → Q .normal a' w)
    (hx : hb m f = true → (r == c1 || r == c2) = true → ∀ a', Same 4 hi a a' → Q .ret (a'.put (some 3) (.bool true)) w) :
    ((Code.region id #[{ dst := some s, op := .load 39 (.tmp 1), type := 39, pos := p0, after := #[], guard := none }, { dst := some (s + 1), op := .call { callee := .value (.func 40), args := #[.tmp s, .const (.int .u64 f)], argTypes := #[39, 39] }, type := 4, pos := p1, after := #[{ on := 0, ground := .data }], guard := none }] false).seq (Code.cond (.tmp (s + 1)) ((Code.region (id + 1) #[{ dst := some (s + 2), op := .move (.tmp 0), type := 21, pos := p2, after := #[], guard := none }] false).seq (Code.block bk (((Code.region (id + 2) #[{ dst := some (s + 4), op := .binOp .eql 21 (.tmp (s + 2)) (.const (.int .i32 c1)) 21, type := 4, pos := p3, after := #[], guard := none }, { dst := some (s + 3), op := .assign (.tmp (s + 4)), type := 4, pos := p4, after := #[{ on := 0, ground := .data }], guard := none }] false).seq (Code.cond (.tmp (s + 3)) Code.skip (Code.region (id + 2 + 1) #[{ dst := some (s + 5), op := .binOp .eql 21 (.tmp (s + 2)) (.const (.int .i32 c2)) 21, type := 4, pos := p5, after := #[], guard := none }, { dst := some (s + 3), op := .assign (.tmp (s + 5)), type := 4, pos := p6, after := #[{ on := 0, ground := .data }], guard := none }] false)) ).seq (Code.cond (.tmp (s + 3)) ((Code.region (id + 4) #[{ dst := some 3, op := .assign (.const (.bool true)), type := 4, pos := p7, after := #[], guard := none }] false).seq Code.ret) Code.skip)))) Code.skip)).wp Tryd.prog Q a w := by
  have hN := hA.size
  refine wp_seq (r_has1 (by omega) hA.s1 hc ?_)
  show Code.wp _ _ _ _ _
  refine wp_cond (eval_same _ _ _ (by rw [size_put]; omega)) ?_
  have s0 : Same 4 hi a ((a.put (some s) (.int .u64 m)).put (some (s + 1)) (.bool (hb m f))) := ((Same.refl a).put _ _ (by omega) (by omega)).put _ _ (by omega) (by omega)
  generalize (a.put (some s) (.int .u64 m)).put (some (s + 1)) (.bool (hb m f)) = a1 at s0
  have hA1 := hA.same s0
  cases hh : hb m f with
  | false => exact wp_skip (hn (.inl hh) _ s0)
  | true =>
    rw [if_pos rfl]
    refine wp_seq (r_move ?_)
    show Code.wp _ _ _ _ _
    rw [hA1.s0]
    have s1 := s0.put (s + 2) (.int .i32 r) (by omega) (by omega)
    have e1 := eval_same a1 (s + 2) (.int .i32 r) (by rw [s0.size]; omega)
    generalize a1.put (some (s + 2)) (.int .i32 r) = a2 at s1 e1
    refine wp_block ?_
    refine wp_seq (r_or (lo := 4) (hi := hi) (by rw [s1.size]; have := hA.size; omega) (by omega) (by omega) e1 fun a3 s2' t3 e3 => ?_)
    have s2 := s1.trans s2'
    show Code.wp _ _ _ _ _
    refine wp_cond t3 ?_
    cases h1 : (r == c1 || r == c2) with
    | true =>
      rw [if_pos rfl]
      refine r_true ?_
      exact hx hh h1 _ s2
    | false =>
      rw [if_neg (by simp)]
      exact wp_skip (hn (.inr h1) _ s2)
theorem q4 {id bk s : Nat} {f c1 c2 c3 c4 : Int} {p0 p1 p2 p3 p4 p5 p6 p7 p8 p9 p10 p11 : String} (hc : w.cell? pm = some (.int .u64 m)) (hA : P0 pm r hi a) (hs : 4 ≤ s) (hsN : s + 7 ≤ hi)
    (hn : (hb m f = false ∨ (r == c1 || r == c2 || r == c3 || r == c4) = false) → ∀ a', Same 4 hi a a' → Q .normal a' w)
    (hx : hb m f = true → (r == c1 || r == c2 || r == c3 || r == c4) = true → ∀ a', Same 4 hi a a' → Q .ret (a'.put (some 3) (.bool true)) w) :
    ((Code.region id #[{ dst := some s, op := .load 39 (.tmp 1), type := 39, pos := p0, after := #[], guard := none }, { dst := some (s + 1), op := .call { callee := .value (.func 40), args := #[.tmp s, .const (.int .u64 f)], argTypes := #[39, 39] }, type := 4, pos := p1, after := #[{ on := 0, ground := .data }], guard := none }] false).seq (Code.cond (.tmp (s + 1)) ((Code.region (id + 1) #[{ dst := some (s + 2), op := .move (.tmp 0), type := 21, pos := p2, after := #[], guard := none }] false).seq (Code.block bk (((Code.region (id + 2) #[{ dst := some (s + 4), op := .binOp .eql 21 (.tmp (s + 2)) (.const (.int .i32 c1)) 21, type := 4, pos := p3, after := #[], guard := none }, { dst := some (s + 3), op := .assign (.tmp (s + 4)), type := 4, pos := p4, after := #[{ on := 0, ground := .data }], guard := none }] false).seq (Code.cond (.tmp (s + 3)) Code.skip ((Code.region (id + 2 + 1) #[{ dst := some (s + 4 + 1), op := .binOp .eql 21 (.tmp (s + 2)) (.const (.int .i32 c2)) 21, type := 4, pos := p5, after := #[], guard := none }, { dst := some (s + 3), op := .assign (.tmp (s + 4 + 1)), type := 4, pos := p6, after := #[{ on := 0, ground := .data }], guard := none }] false).seq (Code.cond (.tmp (s + 3)) Code.skip ((Code.region (id + 2 + 2) #[{ dst := some (s + 4 + 2), op := .binOp .eql 21 (.tmp (s + 2)) (.const (.int .i32 c3)) 21, type := 4, pos := p7, after := #[], guard := none }, { dst := some (s + 3), op := .assign (.tmp (s + 4 + 2)), type := 4, pos := p8, after := #[{ on := 0, ground := .data }], guard := none }] false).seq (Code.cond (.tmp (s + 3)) Code.skip (Code.region (id + 2 + 3) #[{ dst := some (s + 4 + 3), op := .binOp .eql 21 (.tmp (s + 2)) (.const (.int .i32 c4)) 21, type := 4, pos := p9, after := #[], guard := none }, { dst := some (s + 3), op := .assign (.tmp (s + 4 + 3)), type := 4, pos := p10, after := #[{ on := 0, ground := .data }], guard := none }] false)))))) ).seq (Code.cond (.tmp (s + 3)) ((Code.region (id + 6) #[{ dst := some 3, op := .assign (.const (.bool true)), type := 4, pos := p11, after := #[], guard := none }] false).seq Code.ret) Code.skip)))) Code.skip)).wp Tryd.prog Q a w := by
  have hN := hA.size
  refine wp_seq (r_has1 (by omega) hA.s1 hc ?_)
  show Code.wp _ _ _ _ _
  refine wp_cond (eval_same _ _ _ (by rw [size_put]; omega)) ?_
  have s0 : Same 4 hi a ((a.put (some s) (.int .u64 m)).put (some (s + 1)) (.bool (hb m f))) := ((Same.refl a).put _ _ (by omega) (by omega)).put _ _ (by omega) (by omega)
  generalize (a.put (some s) (.int .u64 m)).put (some (s + 1)) (.bool (hb m f)) = a1 at s0
  have hA1 := hA.same s0
  cases hh : hb m f with
  | false => exact wp_skip (hn (.inl hh) _ s0)
  | true =>
    rw [if_pos rfl]
    refine wp_seq (r_move ?_)
    show Code.wp _ _ _ _ _
    rw [hA1.s0]
    have s1 := s0.put (s + 2) (.int .i32 r) (by omega) (by omega)
    have e1 := eval_same a1 (s + 2) (.int .i32 r) (by rw [s0.size]; omega)
    generalize a1.put (some (s + 2)) (.int .i32 r) = a2 at s1 e1
    refine wp_block ?_
    refine wp_seq (r_or4 (lo := 4) (hi := hi) (by omega) (by rw [s1.size]; have := hA.size; omega) e1 fun a3 s2' t3 => ?_)
    have s2 := s1.trans s2'
    show Code.wp _ _ _ _ _
    refine wp_cond t3 ?_
    cases h1 : (r == c1 || r == c2 || r == c3 || r == c4) with
    | true =>
      rw [if_pos rfl]
      refine r_true ?_
      exact hx hh h1 _ s2
    | false =>
      rw [if_neg (by simp)]
      exact wp_skip (hn (.inr h1) _ s2)
theorem r_and_geq0 {id s : Nat} {c c' : Int} {p0 p1 p2 p3 p4 p5 : String} {g1 g2 g3 g4 g5 : Array Edge} (hx : a.eval (.tmp 0) = .int .i32 r) (hs : 4 ≤ s) (hsN : s + 5 ≤ hi) (hhi : hi < a.tmps.size)
    (h : ∀ a', Same 4 hi a a' → a'.eval (.tmp (s + 5)) = .bool (decide (c ≤ r) && decide (r ≤ c')) → Q .normal a' w) :
    (Code.region (id) #[{ dst := some (s), op := .move (.tmp 0), type := 21, pos := p0, after := #[], guard := none }, { dst := some (s + 1), op := .binOp .geq 21 (.tmp (s)) (.const (.int .i32 c)) 21, type := 4, pos := p1, after := g1, guard := none }, { dst := some (s + 2), op := .move (.tmp (s + 1)), type := 4, pos := p2, after := g2, guard := none }, { dst := some (s + 3), op := .move (.tmp 0), type := 21, pos := p3, after := g3, guard := some (2, true) }, { dst := some (s + 4), op := .binOp .leq 21 (.tmp (s + 3)) (.const (.int .i32 c')) 21, type := 4, pos := p4, after := g4, guard := some (2, true) }, { dst := some (s + 5), op := .pick (.tmp (s + 2)) (.tmp (s + 4)) (.const (.bool false)), type := 4, pos := p5, after := g5, guard := none }] false).wp Tryd.prog Q a w := by
  refine wp_region_lit ?_
  refine Fr.move ?_
  rw [hx]
  refine Fr.step rfl (run_geq Tryd.underlying21 (eval_same _ _ _ (by omega)) rfl) ?_
  refine Fr.move ?_
  rw [eval_same _ _ _ (by rw [size_put]; omega)]
  have s1 : Same 4 hi a (((a.put (some s) (.int .i32 r)).put (some (s + 1)) (.bool (decide (c ≤ r)))).put (some (s + 2)) (.bool (decide (c ≤ r)))) := (((Same.refl a).put _ _ (by omega) (by omega)).put _ _ (by omega) (by omega)).put _ _ (by omega) (by omega)
  have e2 := eval_same ((a.put (some s) (.int .i32 r)).put (some (s + 1)) (.bool (decide (c ≤ r)))) (s + 2) (.bool (decide (c ≤ r))) (by rw [size_put, size_put]; omega)
  show wpList _ _ _ _ (((a.put (some s) (.int .i32 r)).put (some (s + 1)) (.bool (decide (c ≤ r)))).put (some (s + 2)) (.bool (decide (c ≤ r)))) w
  generalize (((a.put (some s) (.int .i32 r)).put (some (s + 1)) (.bool (decide (c ≤ r)))).put (some (s + 2)) (.bool (decide (c ≤ r)))) = a1 at s1 e2
  have hz : s + 5 < a1.tmps.size := by rw [s1.size]; omega
  have hx1 : a1.eval (.tmp 0) = .int .i32 r := (s1.slot 0 (by omega)).trans hx
  cases hb1 : decide (c ≤ r) with
  | true =>
    rw [hb1] at e2
    refine guard_yes (j := 2) (b := true) (d := s + 2) rfl rfl (by omega) e2 rfl ?_
    rw [hx1]
    refine guard_yes (j := 2) (b := true) (d := s + 2) rfl rfl (by rw [size_put]; omega) (by rw [eval_other _ _ _ _ (by omega)]; exact e2) (run_leq Tryd.underlying21 (eval_same _ _ _ (by omega)) rfl) ?_
    refine Fr.step rfl (run_pick (b := true) (by rw [eval_other _ _ _ _ (by omega), eval_other _ _ _ _ (by omega)]; exact e2)) ?_
    rw [if_pos rfl, eval_same _ _ _ (by rw [size_put]; omega)]
    refine h _ (((s1.put _ _ (by omega) (by omega)).put _ _ (by omega) (by omega)).put _ _ (by omega) (by omega)) ?_
    rw [hb1, Bool.true_and]
    exact eval_same _ _ _ (by rw [size_put, size_put]; omega)
  | false =>
    rw [hb1] at e2
    refine guard_no (j := 2) (b := true) (c := false) (d := s + 2) rfl rfl (by omega) e2 (by decide) ?_
    refine guard_no (j := 2) (b := true) (c := false) (d := s + 2) rfl rfl (by rw [size_put]; omega) (by rw [eval_other _ _ _ _ (by omega)]; exact e2) (by decide) ?_
    refine Fr.step rfl (run_pick (b := false) (by rw [eval_other _ _ _ _ (by omega), eval_other _ _ _ _ (by omega)]; exact e2)) ?_
    rw [if_neg (by decide), eval_const]
    refine h _ (((s1.put _ _ (by omega) (by omega)).put _ _ (by omega) (by omega)).put _ _ (by omega) (by omega)) ?_
    rw [hb1, Bool.false_and]
    exact eval_same _ _ _ (by rw [size_put, size_put]; omega)
theorem r_and_gtr0 {id s : Nat} {c c' : Int} {p0 p1 p2 p3 p4 p5 : String} {g1 g2 g3 g4 g5 : Array Edge} (hx : a.eval (.tmp 0) = .int .i32 r) (hs : 4 ≤ s) (hsN : s + 5 ≤ hi) (hhi : hi < a.tmps.size)
    (h : ∀ a', Same 4 hi a a' → a'.eval (.tmp (s + 5)) = .bool (decide (c < r) && decide (r ≤ c')) → Q .normal a' w) :
    (Code.region (id) #[{ dst := some (s), op := .move (.tmp 0), type := 21, pos := p0, after := #[], guard := none }, { dst := some (s + 1), op := .binOp .gtr 21 (.tmp (s)) (.const (.int .i32 c)) 21, type := 4, pos := p1, after := g1, guard := none }, { dst := some (s + 2), op := .move (.tmp (s + 1)), type := 4, pos := p2, after := g2, guard := none }, { dst := some (s + 3), op := .move (.tmp 0), type := 21, pos := p3, after := g3, guard := some (2, true) }, { dst := some (s + 4), op := .binOp .leq 21 (.tmp (s + 3)) (.const (.int .i32 c')) 21, type := 4, pos := p4, after := g4, guard := some (2, true) }, { dst := some (s + 5), op := .pick (.tmp (s + 2)) (.tmp (s + 4)) (.const (.bool false)), type := 4, pos := p5, after := g5, guard := none }] false).wp Tryd.prog Q a w := by
  refine wp_region_lit ?_
  refine Fr.move ?_
  rw [hx]
  refine Fr.step rfl (run_gtr Tryd.underlying21 (eval_same _ _ _ (by omega)) rfl) ?_
  refine Fr.move ?_
  rw [eval_same _ _ _ (by rw [size_put]; omega)]
  have s1 : Same 4 hi a (((a.put (some s) (.int .i32 r)).put (some (s + 1)) (.bool (decide (c < r)))).put (some (s + 2)) (.bool (decide (c < r)))) := (((Same.refl a).put _ _ (by omega) (by omega)).put _ _ (by omega) (by omega)).put _ _ (by omega) (by omega)
  have e2 := eval_same ((a.put (some s) (.int .i32 r)).put (some (s + 1)) (.bool (decide (c < r)))) (s + 2) (.bool (decide (c < r))) (by rw [size_put, size_put]; omega)
  show wpList _ _ _ _ (((a.put (some s) (.int .i32 r)).put (some (s + 1)) (.bool (decide (c < r)))).put (some (s + 2)) (.bool (decide (c < r)))) w
  generalize (((a.put (some s) (.int .i32 r)).put (some (s + 1)) (.bool (decide (c < r)))).put (some (s + 2)) (.bool (decide (c < r)))) = a1 at s1 e2
  have hz : s + 5 < a1.tmps.size := by rw [s1.size]; omega
  have hx1 : a1.eval (.tmp 0) = .int .i32 r := (s1.slot 0 (by omega)).trans hx
  cases hb1 : decide (c < r) with
  | true =>
    rw [hb1] at e2
    refine guard_yes (j := 2) (b := true) (d := s + 2) rfl rfl (by omega) e2 rfl ?_
    rw [hx1]
    refine guard_yes (j := 2) (b := true) (d := s + 2) rfl rfl (by rw [size_put]; omega) (by rw [eval_other _ _ _ _ (by omega)]; exact e2) (run_leq Tryd.underlying21 (eval_same _ _ _ (by omega)) rfl) ?_
    refine Fr.step rfl (run_pick (b := true) (by rw [eval_other _ _ _ _ (by omega), eval_other _ _ _ _ (by omega)]; exact e2)) ?_
    rw [if_pos rfl, eval_same _ _ _ (by rw [size_put]; omega)]
    refine h _ (((s1.put _ _ (by omega) (by omega)).put _ _ (by omega) (by omega)).put _ _ (by omega) (by omega)) ?_
    rw [hb1, Bool.true_and]
    exact eval_same _ _ _ (by rw [size_put, size_put]; omega)
  | false =>
    rw [hb1] at e2
    refine guard_no (j := 2) (b := true) (c := false) (d := s + 2) rfl rfl (by omega) e2 (by decide) ?_
    refine guard_no (j := 2) (b := true) (c := false) (d := s + 2) rfl rfl (by rw [size_put]; omega) (by rw [eval_other _ _ _ _ (by omega)]; exact e2) (by decide) ?_
    refine Fr.step rfl (run_pick (b := false) (by rw [eval_other _ _ _ _ (by omega), eval_other _ _ _ _ (by omega)]; exact e2)) ?_
    rw [if_neg (by decide), eval_const]
    refine h _ (((s1.put _ _ (by omega) (by omega)).put _ _ (by omega) (by omega)).put _ _ (by omega) (by omega)) ?_
    rw [hb1, Bool.false_and]
    exact eval_same _ _ _ (by rw [size_put, size_put]; omega)
/-- Control characters and their signs. -/
theorem q5 {id s : Nat} {f c1 c2 d1 d2 : Int} {p0 p1 p2 p3 p4 p5 p6 p7 p8 p9 p10 p11 p12 p13 p14 p15 : String} {g1 g2 g3 g4 g5 e1 e2 e3 e4 e5 : Array Edge} (hc : w.cell? pm = some (.int .u64 m)) (hA : P0 pm r hi a) (hs : 4 ≤ s) (hsN : s + 13 ≤ hi)
    (hn : (hb m f = false ∨ ((decide (c1 ≤ r) && decide (r ≤ c2)) = false ∧ (decide (d1 < r) && decide (r ≤ d2)) = false)) → ∀ a', Same 4 hi a a' → Q .normal a' w)
    (hx : hb m f = true → ((decide (c1 ≤ r) && decide (r ≤ c2)) = true ∨ (decide (d1 < r) && decide (r ≤ d2)) = true) → ∀ a', Same 4 hi a a' → Q .ret (a'.put (some 3) (.bool true)) w) :
    ((Code.region id #[{ dst := some s, op := .load 39 (.tmp 1), type := 39, pos := p0, after := #[], guard := none }, { dst := some (s + 1), op := .call { callee := .value (.func 40), args := #[.tmp s, .const (.int .u64 f)], argTypes := #[39, 39] }, type := 4, pos := p1, after := #[{ on := 0, ground := .data }], guard := none }] false).seq (Code.cond (.tmp (s + 1)) ((Code.region (id + 1) #[{ dst := some (s + 2), op := .move (.tmp 0), type := 21, pos := p2, after := #[], guard := none }, { dst := some (s + 2 + 1), op := .binOp .geq 21 (.tmp (s + 2)) (.const (.int .i32 c1)) 21, type := 4, pos := p3, after := g1, guard := none }, { dst := some (s + 2 + 2), op := .move (.tmp (s + 2 + 1)), type := 4, pos := p4, after := g2, guard := none }, { dst := some (s + 2 + 3), op := .move (.tmp 0), type := 21, pos := p5, after := g3, guard := some (2, true) }, { dst := some (s + 2 + 4), op := .binOp .leq 21 (.tmp (s + 2 + 3)) (.const (.int .i32 c2)) 21, type := 4, pos := p6, after := g4, guard := some (2, true) }, { dst := some (s + 2 + 5), op := .pick (.tmp (s + 2 + 2)) (.tmp (s + 2 + 4)) (.const (.bool false)), type := 4, pos := p7, after := g5, guard := none }] false).seq
      (Code.cond (.tmp (s + 2 + 5)) ((Code.region (id + 2) #[{ dst := some 3, op := .assign (.const (.bool true)), type := 4, pos := p8, after := #[], guard := none }] false).seq Code.ret) ((Code.region (id + 3) #[{ dst := some (s + 8), op := .move (.tmp 0), type := 21, pos := p9, after := #[], guard := none }, { dst := some (s + 8 + 1), op := .binOp .gtr 21 (.tmp (s + 8)) (.const (.int .i32 d1)) 21, type := 4, pos := p10, after := e1, guard := none }, { dst := some (s + 8 + 2), op := .move (.tmp (s + 8 + 1)), type := 4, pos := p11, after := e2, guard := none }, { dst := some (s + 8 + 3), op := .move (.tmp 0), type := 21, pos := p12, after := e3, guard := some (2, true) }, { dst := some (s + 8 + 4), op := .binOp .leq 21 (.tmp (s + 8 + 3)) (.const (.int .i32 d2)) 21, type := 4, pos := p13, after := e4, guard := some (2, true) }, { dst := some (s + 8 + 5), op := .pick (.tmp (s + 8 + 2)) (.tmp (s + 8 + 4)) (.const (.bool false)), type := 4, pos := p14, after := e5, guard := none }] false).seq (Code.cond (.tmp (s + 8 + 5)) ((Code.region (id + 4) #[{ dst := some 3, op := .assign (.const (.bool true)), type := 4, pos := p15, after := #[], guard := none }] false).seq Code.ret) Code.skip)))) Code.skip)).wp Tryd.prog Q a w := by
  have hN := hA.size
  refine wp_seq (r_has1 (by omega) hA.s1 hc ?_)
  show Code.wp _ _ _ _ _
  refine wp_cond (eval_same _ _ _ (by rw [size_put]; omega)) ?_
  have s0 : Same 4 hi a ((a.put (some s) (.int .u64 m)).put (some (s + 1)) (.bool (hb m f))) := ((Same.refl a).put _ _ (by omega) (by omega)).put _ _ (by omega) (by omega)
  generalize (a.put (some s) (.int .u64 m)).put (some (s + 1)) (.bool (hb m f)) = a1 at s0
  have hA1 := hA.same s0
  cases hh : hb m f with
  | false => exact wp_skip (hn (.inl hh) _ s0)
  | true =>
    rw [if_pos rfl]
    refine wp_seq (r_and_geq0 (hi := hi) hA1.s0 (by omega) (by omega) hA1.size fun a3 s2' t3 => ?_)
    have s2 := s0.trans s2'
    have hA3 := hA.same s2
    show Code.wp _ _ _ _ _
    refine wp_cond t3 ?_
    cases h1 : (decide (c1 ≤ r) && decide (r ≤ c2)) with
    | true =>
      rw [if_pos rfl]
      exact r_true (hx hh (.inl h1) _ s2)
    | false =>
      rw [if_neg (by simp)]
      refine wp_seq (r_and_gtr0 (hi := hi) hA3.s0 (by omega) (by omega) hA3.size fun a4 s3' t4 => ?_)
      have s3 := s2.trans s3'
      show Code.wp _ _ _ _ _
      refine wp_cond t4 ?_
      cases h2 : (decide (d1 < r) && decide (r ≤ d2)) with
      | true =>
        rw [if_pos rfl]
        exact r_true (hx hh (.inr h2) _ s3)
      | false =>
        rw [if_neg (by simp)]
        exact wp_skip (hn (.inr ⟨h1, h2⟩) _ s3)
/-- Signs of control characters. -/
theorem q6 {id s : Nat} {f d1 d2 : Int} {p0 p1 p2 p3 p4 p5 p6 p7 p8 : String} {g1 g2 g3 g4 g5 : Array Edge} (hc : w.cell? pm = some (.int .u64 m)) (hA : P0 pm r hi a) (hs : 4 ≤ s) (hsN : s + 7 ≤ hi)
    (hn : (hb m f = false ∨ (decide (d1 < r) && decide (r ≤ d2)) = false) → ∀ a', Same 4 hi a a' → Q .normal a' w)
    (hx : hb m f = true → (decide (d1 < r) && decide (r ≤ d2)) = true → ∀ a', Same 4 hi a a' → Q .ret (a'.put (some 3) (.bool true)) w) :
    ((Code.region id #[{ dst := some s, op := .load 39 (.tmp 1), type := 39, pos := p0, after := #[], guard := none }, { dst := some (s + 1), op := .call { callee := .value (.func 40), args := #[.tmp s, .const (.int .u64 f)], argTypes := #[39, 39] }, type := 4, pos := p1, after := #[{ on := 0, ground := .data }], guard := none }] false).seq (Code.cond (.tmp (s + 1)) ((Code.region (id + 1) #[{ dst := some (s + 2), op := .move (.tmp 0), type := 21, pos := p2, after := #[], guard := none }, { dst := some (s + 2 + 1), op := .binOp .gtr 21 (.tmp (s + 2)) (.const (.int .i32 d1)) 21, type := 4, pos := p3, after := g1, guard := none }, { dst := some (s + 2 + 2), op := .move (.tmp (s + 2 + 1)), type := 4, pos := p4, after := g2, guard := none }, { dst := some (s + 2 + 3), op := .move (.tmp 0), type := 21, pos := p5, after := g3, guard := some (2, true) }, { dst := some (s + 2 + 4), op := .binOp .leq 21 (.tmp (s + 2 + 3)) (.const (.int .i32 d2)) 21, type := 4, pos := p6, after := g4, guard := some (2, true) }, { dst := some (s + 2 + 5), op := .pick (.tmp (s + 2 + 2)) (.tmp (s + 2 + 4)) (.const (.bool false)), type := 4, pos := p7, after := g5, guard := none }] false).seq
      (Code.cond (.tmp (s + 2 + 5)) ((Code.region (id + 2) #[{ dst := some 3, op := .assign (.const (.bool true)), type := 4, pos := p8, after := #[], guard := none }] false).seq Code.ret) Code.skip)) Code.skip)).wp Tryd.prog Q a w := by
  have hN := hA.size
  refine wp_seq (r_has1 (by omega) hA.s1 hc ?_)
  show Code.wp _ _ _ _ _
  refine wp_cond (eval_same _ _ _ (by rw [size_put]; omega)) ?_
  have s0 : Same 4 hi a ((a.put (some s) (.int .u64 m)).put (some (s + 1)) (.bool (hb m f))) := ((Same.refl a).put _ _ (by omega) (by omega)).put _ _ (by omega) (by omega)
  generalize (a.put (some s) (.int .u64 m)).put (some (s + 1)) (.bool (hb m f)) = a1 at s0
  have hA1 := hA.same s0
  cases hh : hb m f with
  | false => exact wp_skip (hn (.inl hh) _ s0)
  | true =>
    rw [if_pos rfl]
    refine wp_seq (r_and_gtr0 (hi := hi) hA1.s0 (by omega) (by omega) hA1.size fun a4 s3' t4 => ?_)
    have s3 := s0.trans s3'
    show Code.wp _ _ _ _ _
    refine wp_cond t4 ?_
    cases h2 : (decide (d1 < r) && decide (r ≤ d2)) with
    | true =>
      rw [if_pos rfl]
      exact r_true (hx hh h2 _ s3)
    | false =>
      rw [if_neg (by simp)]
      exact wp_skip (hn (.inr h2) _ s3)
end
end Go.Proofs.YtlgoghonnnobfaaDoor.Fr
namespace Go.Proofs.YtlgoghonnnobfaaDoor.Enc
open Go Go.RowKit Go.Proofs.YtlgoghonnnobfaaDoor.Fr
set_option linter.unusedVariables false
set_option linter.unusedSimpArgs false
/-! ### which runes the encoder, and the decoder, stop at -/
def hit (m r : Int) : List (Int × List Int) → Bool
  | [] => false
  | (f, l) :: t => if hb m f = true ∧ r ∈ l then true else hit m r t
theorem hit_miss {m r f : Int} {l : List Int} {t : List (Int × List Int)} (h : hb m f = false ∨ r ∉ l) : hit m r ((f, l) :: t) = hit m r t := by
  rw [hit, if_neg (fun hh => by rcases h with h | h; exact absurd hh.1 (by rw [h]; decide); exact h hh.2)]
theorem hit_hit {m r f : Int} {l : List Int} {t : List (Int × List Int)} (h : hb m f = true) (h1 : r ∈ l) : hit m r ((f, l) :: t) = true := by
  rw [hit, if_pos ⟨h, h1⟩]
def both (b : Bit) : Int × List Int := (b.f, b.cs ++ b.ds)
def signs (b : Bit) : Int × List Int := (b.f, b.ds)
def stopE (m r : Int) : Bool := if r = 0 ∨ r = 9216 ∨ r = 8219 ∨ r = 65533 then true else hit m r (bits.map both)
def stopD (m r : Int) : Bool := if r = 9216 ∨ r = 8219 then true else hit m r (bits.map signs)
theorem ret_any {fn : Func} {R : Ending → World → Prop} {a : Act} {w : World} {v : Value} (hr : fn.results = #[.tmp 3]) (hd : a.defers = []) (h : a.eval (.tmp 3) = v) (hR : R (.returned v) w) : bodyPost Tryd.prog fn R .ret a w := by
  refine ⟨hd, v, ?_, hR⟩
  unfold results
  rw [hr]
  have h' : a.tmps.getD 3 undef = v := h
  rw [Array.getD_eq_getD_getElem?] at h'
  simp [h']
set_option maxRecDepth 100000 in
set_option maxHeartbeats 2000000 in
theorem pred44 (W : World) (pm : Addr) (m r : Int) (hc : W.cell? pm = some (.int .u64 m)) : Calls Tryd.prog 44 #[.int .i32 r, .pointer (some pm)] W fun e w' => e = .returned (.bool (stopE m r)) ∧ W = w' := by
  refine calls_of_wp Tryd.func44 rfl ?_
  have hz : (⟨#[Value.int .i32 r, .pointer (some pm)] ++ Array.replicate (Tryd.f44.ntmps - (#[Value.int .i32 r, .pointer (some pm)] : Array Value).size) undef, []⟩ : Act).tmps.size = 138 := by
    have h : Tryd.f44.ntmps = 138 := by kernel_rfl
    simp [h]
  have e0 : (⟨#[Value.int .i32 r, .pointer (some pm)] ++ Array.replicate (Tryd.f44.ntmps - (#[Value.int .i32 r, .pointer (some pm)] : Array Value).size) undef, []⟩ : Act).eval (.tmp 0) = .int .i32 r := by
    simp [Act.eval, Array.getElem?_append]
  have e1 : (⟨#[Value.int .i32 r, .pointer (some pm)] ++ Array.replicate (Tryd.f44.ntmps - (#[Value.int .i32 r, .pointer (some pm)] : Array Value).size) undef, []⟩ : Act).eval (.tmp 1) = .pointer (some pm) := by
    simp [Act.eval, Array.getElem?_append]
  have hd : (⟨#[Value.int .i32 r, .pointer (some pm)] ++ Array.replicate (Tryd.f44.ntmps - (#[Value.int .i32 r, .pointer (some pm)] : Array Value).size) undef, []⟩ : Act).defers = [] := rfl
  generalize (⟨#[Value.int .i32 r, .pointer (some pm)] ++ Array.replicate (Tryd.f44.ntmps - (#[Value.int .i32 r, .pointer (some pm)] : Array Value).size) undef, []⟩ : Act) = a at hz e0 e1 hd
  have hres : Tryd.f44.results = #[.tmp 3] := by kernel_rfl
  have yes : ∀ a' : Act, Same 4 137 a a' ∨ Same 4 137 (a.put (some 3) (.bool false)) a' → stopE m r = true → bodyPost Tryd.prog Tryd.f44 (fun e w' => e = .returned (.bool (stopE m r)) ∧ W = w') .ret (a'.put (some 3) (.bool true)) W := by
    intro a' h hs
    have hsz : a'.tmps.size = 138 := by rcases h with h | h; exact h.size.trans hz; exact h.size.trans ((size_put _ _ _).trans hz)
    have hdd : a'.defers = [] := by rcases h with h | h; exact h.defers.trans hd; exact h.defers.trans ((defers_put _ _ _).trans hd)
    exact ret_any hres ((defers_put _ _ _).trans hdd) (eval_same _ _ _ (by omega)) ⟨by rw [hs], rfl⟩
  refine wp_seq (wp_region_lit (assign ?_))
  refine wpList_nil ?_
  rw [eval_const]
  show Code.wp _ _ _ _ _
  have hA : P0 pm r 137 (a.put (some 3) (.bool false)) := ⟨by rw [size_put, hz]; decide, (eval_other _ _ _ _ (by decide)).trans e0, (eval_other _ _ _ _ (by decide)).trans e1, (defers_put _ _ _).trans hd⟩
  generalize a.put (some 3) (.bool false) = a0 at hA yes
  refine wp_seq ?_
  refine wp_seq (r_move ?_)
  show Code.wp _ _ _ _ _
  rw [hA.s0]
  have s1 := (Same.refl a0 : Same 4 137 a0 a0).put 4 (.int .i32 r) (by decide) (by decide)
  have x1 := eval_same a0 4 (.int .i32 r) (by have := hA.size; omega)
  generalize a0.put (some 4) (.int .i32 r) = a1 at s1 x1
  refine wp_block ?_
  refine wp_seq (r_or4 (lo := 4) (hi := 137) (by decide) (by rw [s1.size]; have := hA.size; omega) x1 fun a2 s2' t2 => ?_)
  have s2 := s1.trans s2'
  show Code.wp _ _ _ _ _
  refine wp_cond t2 ?_
  cases h0 : (r == 0 || r == 9216 || r == 8219 || r == 65533) with
  | true =>
    rw [if_pos rfl]
    refine r_true ?_
    refine yes _ (.inr s2) ?_
    unfold stopE
    rw [if_pos (by simpa [or_assoc, and_assoc] using h0)]
  | false =>
    rw [if_neg (by decide)]
    refine wp_skip ?_
    show Code.wp _ _ _ _ _
    have hstop : stopE m r = hit m r (bits.map both) := by unfold stopE; rw [if_neg (by simpa [or_assoc, and_assoc] using h0)]
    simp only [bits, full, List.map_cons, List.map_nil, both, List.cons_append, List.nil_append] at hstop
    generalize stopE m r = B at yes hstop ⊢
    have hA2 := hA.same s2
    refine wp_seq (q2 (hi := 137) hc hA2 ?_ ?_ ?n0 ?x0)
    any_goals decide
    case x0 =>
      intro hh h1 a' hs
      refine yes _ (.inr (s2.trans hs)) ?_
      rw [hstop, hit_hit hh (by simp at h1 ⊢; omega)]
    intro hm b0 hs
    have S0 := s2.trans hs
    have A0 := hA.same S0
    rw [hit_miss ?m0] at hstop
    case m0 =>
      rcases hm with hm | hm
      · exact .inl hm
      · right; simp at hm ⊢; omega
    clear hm hs
    show Code.wp _ _ _ _ _
    refine wp_seq (q4 (hi := 137) hc A0 ?_ ?_ ?n1 ?x1)
    any_goals decide
    case x1 =>
      intro hh h1 a' hs
      refine yes _ (.inr (S0.trans hs)) ?_
      rw [hstop, hit_hit hh (by simp at h1 ⊢; omega)]
    intro hm b1 hs
    have S1 := S0.trans hs
    have A1 := hA.same S1
    rw [hit_miss ?m1] at hstop
    case m1 =>
      rcases hm with hm | hm
      · exact .inl hm
      · right; simp at hm ⊢; omega
    clear hm hs
    show Code.wp _ _ _ _ _
    refine wp_seq (q4 (hi := 137) hc A1 ?_ ?_ ?n2 ?x2)
    any_goals decide
    case x2 =>
      intro hh h1 a' hs
      refine yes _ (.inr (S1.trans hs)) ?_
      rw [hstop, hit_hit hh (by simp at h1 ⊢; omega)]
    intro hm b2 hs
    have S2 := S1.trans hs
    have A2 := hA.same S2
    rw [hit_miss ?m2] at hstop
    case m2 =>
      rcases hm with hm | hm
      · exact .inl hm
      · right; simp at hm ⊢; omega
    clear hm hs
    show Code.wp _ _ _ _ _
    refine wp_seq (q2 (hi := 137) hc A2 ?_ ?_ ?n3 ?x3)
    any_goals decide
    case x3 =>
      intro hh h1 a' hs
      refine yes _ (.inr (S2.trans hs)) ?_
      rw [hstop, hit_hit hh (by simp at h1 ⊢; omega)]
    intro hm b3 hs
    have S3 := S2.trans hs
    have A3 := hA.same S3
    rw [hit_miss ?m3] at hstop
    case m3 =>
      rcases hm with hm | hm
      · exact .inl hm
      · right; simp at hm ⊢; omega
    clear hm hs
    show Code.wp _ _ _ _ _
    refine wp_seq (q2 (hi := 137) hc A3 ?_ ?_ ?n4 ?x4)
    any_goals decide
    case x4 =>
      intro hh h1 a' hs
      refine yes _ (.inr (S3.trans hs)) ?_
      rw [hstop, hit_hit hh (by simp at h1 ⊢; omega)]
    intro hm b4 hs
    have S4 := S3.trans hs
    have A4 := hA.same S4
    rw [hit_miss ?m4] at hstop
    case m4 =>
      rcases hm with hm | hm
      · exact .inl hm
      · right; simp at hm ⊢; omega
    clear hm hs
    show Code.wp _ _ _ _ _
    refine wp_seq (q2 (hi := 137) hc A4 ?_ ?_ ?n5 ?x5)
    any_goals decide
    case x5 =>
      intro hh h1 a' hs
      refine yes _ (.inr (S4.trans hs)) ?_
      rw [hstop, hit_hit hh (by simp at h1 ⊢; omega)]
    intro hm b5 hs
    have S5 := S4.trans hs
    have A5 := hA.same S5
    rw [hit_miss ?m5] at hstop
    case m5 =>
      rcases hm with hm | hm
      · exact .inl hm
      · right; simp at hm ⊢; omega
    clear hm hs
    show Code.wp _ _ _ _ _
    refine wp_seq (q2 (hi := 137) hc A5 ?_ ?_ ?n6 ?x6)
    any_goals decide
    case x6 =>
      intro hh h1 a' hs
      refine yes _ (.inr (S5.trans hs)) ?_
      rw [hstop, hit_hit hh (by simp at h1 ⊢; omega)]
    intro hm b6 hs
    have S6 := S5.trans hs
    have A6 := hA.same S6
    rw [hit_miss ?m6] at hstop
    case m6 =>
      rcases hm with hm | hm
      · exact .inl hm
      · right; simp at hm ⊢; omega
    clear hm hs
    show Code.wp _ _ _ _ _
    refine wp_seq (q2 (hi := 137) hc A6 ?_ ?_ ?n7 ?x7)
    any_goals decide
    case x7 =>
      intro hh h1 a' hs
      refine yes _ (.inr (S6.trans hs)) ?_
      rw [hstop, hit_hit hh (by simp at h1 ⊢; omega)]
    intro hm b7 hs
    have S7 := S6.trans hs
    have A7 := hA.same S7
    rw [hit_miss ?m7] at hstop
    case m7 =>
      rcases hm with hm | hm
      · exact .inl hm
      · right; simp at hm ⊢; omega
    clear hm hs
    show Code.wp _ _ _ _ _
    refine wp_seq (q2 (hi := 137) hc A7 ?_ ?_ ?n8 ?x8)
    any_goals decide
    case x8 =>
      intro hh h1 a' hs
      refine yes _ (.inr (S7.trans hs)) ?_
      rw [hstop, hit_hit hh (by simp at h1 ⊢; omega)]
    intro hm b8 hs
    have S8 := S7.trans hs
    have A8 := hA.same S8
    rw [hit_miss ?m8] at hstop
    case m8 =>
      rcases hm with hm | hm
      · exact .inl hm
      · right; simp at hm ⊢; omega
    clear hm hs
    show Code.wp _ _ _ _ _
    refine wp_seq (q2 (hi := 137) hc A8 ?_ ?_ ?n9 ?x9)
    any_goals decide
    case x9 =>
      intro hh h1 a' hs
      refine yes _ (.inr (S8.trans hs)) ?_
      rw [hstop, hit_hit hh (by simp at h1 ⊢; omega)]
    intro hm b9 hs
    have S9 := S8.trans hs
    have A9 := hA.same S9
    rw [hit_miss ?m9] at hstop
    case m9 =>
      rcases hm with hm | hm
      · exact .inl hm
      · right; simp at hm ⊢; omega
    clear hm hs
    show Code.wp _ _ _ _ _
    refine wp_seq (q2 (hi := 137) hc A9 ?_ ?_ ?n10 ?x10)
    any_goals decide
    case x10 =>
      intro hh h1 a' hs
      refine yes _ (.inr (S9.trans hs)) ?_
      rw [hstop, hit_hit hh (by simp at h1 ⊢; omega)]
    intro hm b10 hs
    have S10 := S9.trans hs
    have A10 := hA.same S10
    rw [hit_miss ?m10] at hstop
    case m10 =>
      rcases hm with hm | hm
      · exact .inl hm
      · right; simp at hm ⊢; omega
    clear hm hs
    show Code.wp _ _ _ _ _
    refine wp_seq (q2 (hi := 137) hc A10 ?_ ?_ ?n11 ?x11)
    any_goals decide
    case x11 =>
      intro hh h1 a' hs
      refine yes _ (.inr (S10.trans hs)) ?_
      rw [hstop, hit_hit hh (by simp at h1 ⊢; omega)]
    intro hm b11 hs
    have S11 := S10.trans hs
    have A11 := hA.same S11
    rw [hit_miss ?m11] at hstop
    case m11 =>
      rcases hm with hm | hm
      · exact .inl hm
      · right; simp at hm ⊢; omega
    clear hm hs
    show Code.wp _ _ _ _ _
    refine wp_seq (q2 (hi := 137) hc A11 ?_ ?_ ?n12 ?x12)
    any_goals decide
    case x12 =>
      intro hh h1 a' hs
      refine yes _ (.inr (S11.trans hs)) ?_
      rw [hstop, hit_hit hh (by simp at h1 ⊢; omega)]
    intro hm b12 hs
    have S12 := S11.trans hs
    have A12 := hA.same S12
    rw [hit_miss ?m12] at hstop
    case m12 =>
      rcases hm with hm | hm
      · exact .inl hm
      · right; simp at hm ⊢; omega
    clear hm hs
    show Code.wp _ _ _ _ _
    refine wp_seq (q2 (hi := 137) hc A12 ?_ ?_ ?n13 ?x13)
    any_goals decide
    case x13 =>
      intro hh h1 a' hs
      refine yes _ (.inr (S12.trans hs)) ?_
      rw [hstop, hit_hit hh (by simp at h1 ⊢; omega)]
    intro hm b13 hs
    have S13 := S12.trans hs
    have A13 := hA.same S13
    rw [hit_miss ?m13] at hstop
    case m13 =>
      rcases hm with hm | hm
      · exact .inl hm
      · right; simp at hm ⊢; omega
    clear hm hs
    show Code.wp _ _ _ _ _
    refine wp_seq (q4 (hi := 137) hc A13 ?_ ?_ ?n14 ?x14)
    any_goals decide
    case x14 =>
      intro hh h1 a' hs
      refine yes _ (.inr (S13.trans hs)) ?_
      rw [hstop, hit_hit hh (by simp at h1 ⊢; omega)]
    intro hm b14 hs
    have S14 := S13.trans hs
    have A14 := hA.same S14
    rw [hit_miss ?m14] at hstop
    case m14 =>
      rcases hm with hm | hm
      · exact .inl hm
      · right; simp at hm ⊢; omega
    clear hm hs
    show Code.wp _ _ _ _ _
    refine wp_seq (q2 (hi := 137) hc A14 ?_ ?_ ?n15 ?x15)
    any_goals decide
    case x15 =>
      intro hh h1 a' hs
      refine yes _ (.inr (S14.trans hs)) ?_
      rw [hstop, hit_hit hh (by simp at h1 ⊢; omega)]
    intro hm b15 hs
    have S15 := S14.trans hs
    have A15 := hA.same S15
    rw [hit_miss ?m15] at hstop
    case m15 =>
      rcases hm with hm | hm
      · exact .inl hm
      · right; simp at hm ⊢; omega
    clear hm hs
    show Code.wp _ _ _ _ _
    refine wp_seq (q2 (hi := 137) hc A15 ?_ ?_ ?n16 ?x16)
    any_goals decide
    case x16 =>
      intro hh h1 a' hs
      refine yes _ (.inr (S15.trans hs)) ?_
      rw [hstop, hit_hit hh (by simp at h1 ⊢; omega)]
    intro hm b16 hs
    have S16 := S15.trans hs
    have A16 := hA.same S16
    rw [hit_miss ?m16] at hstop
    case m16 =>
      rcases hm with hm | hm
      · exact .inl hm
      · right; simp at hm ⊢; omega
    clear hm hs
    show Code.wp _ _ _ _ _
    refine wp_seq (q2 (hi := 137) hc A16 ?_ ?_ ?n17 ?x17)
    any_goals decide
    case x17 =>
      intro hh h1 a' hs
      refine yes _ (.inr (S16.trans hs)) ?_
      rw [hstop, hit_hit hh (by simp at h1 ⊢; omega)]
    intro hm b17 hs
    have S17 := S16.trans hs
    have A17 := hA.same S17
    rw [hit_miss ?m17] at hstop
    case m17 =>
      rcases hm with hm | hm
      · exact .inl hm
      · right; simp at hm ⊢; omega
    clear hm hs
    show Code.wp _ _ _ _ _
    refine wp_seq (q5 (hi := 137) hc A17 ?_ ?_ ?n18 ?x18)
    any_goals decide
    case x18 =>
      intro hh h1 a' hs
      refine yes _ (.inr (S17.trans hs)) ?_
      rw [hstop, hit_hit hh (by rw [List.mem_append, mem_ctls, mem_signs]; exact h1)]
    intro hm b18 hs
    have S18 := S17.trans hs
    rw [hit_miss ?m18] at hstop
    case m18 =>
      rcases hm with hm | ⟨h1, h2⟩
      · exact .inl hm
      · right; rw [List.mem_append, mem_ctls, mem_signs, h1, h2]; decide
    show Code.wp _ _ _ _ _
    refine wp_seq (wp_region_lit (assign ?_))
    refine wpList_nil ?_
    rw [eval_const]
    show Code.wp _ _ _ _ _
    refine wp_ret ?_
    have hsz : b18.tmps.size = a0.tmps.size := S18.size
    exact ret_any hres ((defers_put _ _ _).trans (S18.defers.trans hA.defers)) (eval_same _ _ _ (by have := hA.size; omega)) ⟨by rw [hstop]; rfl, rfl⟩
set_option maxRecDepth 100000 in
set_option maxHeartbeats 2000000 in
theorem pred50 (W : World) (pm : Addr) (m r : Int) (hc : W.cell? pm = some (.int .u64 m)) : Calls Tryd.prog 50 #[.int .i32 r, .pointer (some pm)] W fun e w' => e = .returned (.bool (stopD m r)) ∧ W = w' := by
  refine calls_of_wp Tryd.func50 rfl ?_
  have hz : (⟨#[Value.int .i32 r, .pointer (some pm)] ++ Array.replicate (Tryd.f50.ntmps - (#[Value.int .i32 r, .pointer (some pm)] : Array Value).size) undef, []⟩ : Act).tmps.size = 109 := by
    have h : Tryd.f50.ntmps = 109 := by kernel_rfl
    simp [h]
  have e0 : (⟨#[Value.int .i32 r, .pointer (some pm)] ++ Array.replicate (Tryd.f50.ntmps - (#[Value.int .i32 r, .pointer (some pm)] : Array Value).size) undef, []⟩ : Act).eval (.tmp 0) = .int .i32 r := by
    simp [Act.eval, Array.getElem?_append]
  have e1 : (⟨#[Value.int .i32 r, .pointer (some pm)] ++ Array.replicate (Tryd.f50.ntmps - (#[Value.int .i32 r, .pointer (some pm)] : Array Value).size) undef, []⟩ : Act).eval (.tmp 1) = .pointer (some pm) := by
    simp [Act.eval, Array.getElem?_append]
  have hd : (⟨#[Value.int .i32 r, .pointer (some pm)] ++ Array.replicate (Tryd.f50.ntmps - (#[Value.int .i32 r, .pointer (some pm)] : Array Value).size) undef, []⟩ : Act).defers = [] := rfl
  generalize (⟨#[Value.int .i32 r, .pointer (some pm)] ++ Array.replicate (Tryd.f50.ntmps - (#[Value.int .i32 r, .pointer (some pm)] : Array Value).size) undef, []⟩ : Act) = a at hz e0 e1 hd
  have hres : Tryd.f50.results = #[.tmp 3] := by kernel_rfl
  have yes : ∀ a' : Act, Same 4 108 a a' ∨ Same 4 108 (a.put (some 3) (.bool false)) a' → stopD m r = true → bodyPost Tryd.prog Tryd.f50 (fun e w' => e = .returned (.bool (stopD m r)) ∧ W = w') .ret (a'.put (some 3) (.bool true)) W := by
    intro a' h hs
    have hsz : a'.tmps.size = 109 := by rcases h with h | h; exact h.size.trans hz; exact h.size.trans ((size_put _ _ _).trans hz)
    have hdd : a'.defers = [] := by rcases h with h | h; exact h.defers.trans hd; exact h.defers.trans ((defers_put _ _ _).trans hd)
    exact ret_any hres ((defers_put _ _ _).trans hdd) (eval_same _ _ _ (by omega)) ⟨by rw [hs], rfl⟩
  refine wp_seq (wp_region_lit (assign ?_))
  refine wpList_nil ?_
  rw [eval_const]
  show Code.wp _ _ _ _ _
  have hA : P0 pm r 108 (a.put (some 3) (.bool false)) := ⟨by rw [size_put, hz]; decide, (eval_other _ _ _ _ (by decide)).trans e0, (eval_other _ _ _ _ (by decide)).trans e1, (defers_put _ _ _).trans hd⟩
  generalize a.put (some 3) (.bool false) = a0 at hA yes
  refine wp_seq ?_
  refine wp_seq (r_move ?_)
  show Code.wp _ _ _ _ _
  rw [hA.s0]
  have s1 := (Same.refl a0 : Same 4 108 a0 a0).put 4 (.int .i32 r) (by decide) (by decide)
  have x1 := eval_same a0 4 (.int .i32 r) (by have := hA.size; omega)
  generalize a0.put (some 4) (.int .i32 r) = a1 at s1 x1
  refine wp_block ?_
  refine wp_seq (r_or (lo := 4) (hi := 108) (by rw [s1.size]; have := hA.size; omega) (by decide) (by decide) x1 fun a2 s2' t2 _ => ?_)
  have s2 := s1.trans s2'
  show Code.wp _ _ _ _ _
  refine wp_cond t2 ?_
  cases h0 : (r == 9216 || r == 8219) with
  | true =>
    rw [if_pos rfl]
    refine r_true ?_
    refine yes _ (.inr s2) ?_
    unfold stopD
    rw [if_pos (by simpa [or_assoc, and_assoc] using h0)]
  | false =>
    rw [if_neg (by decide)]
    refine wp_skip ?_
    show Code.wp _ _ _ _ _
    have hstop : stopD m r = hit m r (bits.map signs) := by unfold stopD; rw [if_neg (by simpa [or_assoc, and_assoc] using h0)]
    simp only [bits, full, List.map_cons, List.map_nil, signs, List.cons_append, List.nil_append] at hstop
    generalize stopD m r = B at yes hstop ⊢
    have hA2 := hA.same s2
    refine wp_seq (q1 (hi := 108) hc hA2 ?_ ?_ ?n0 ?x0)
    any_goals decide
    case x0 =>
      intro hh h1 a' hs
      refine yes _ (.inr (s2.trans hs)) ?_
      rw [hstop, hit_hit hh (by simp at h1 ⊢; omega)]
    intro hm b0 hs
    have S0 := s2.trans hs
    have A0 := hA.same S0
    rw [hit_miss ?m0] at hstop
    case m0 =>
      rcases hm with hm | hm
      · exact .inl hm
      · right; simp at hm ⊢; omega
    clear hm hs
    show Code.wp _ _ _ _ _
    refine wp_seq (q2 (hi := 108) hc A0 ?_ ?_ ?n1 ?x1)
    any_goals decide
    case x1 =>
      intro hh h1 a' hs
      refine yes _ (.inr (S0.trans hs)) ?_
      rw [hstop, hit_hit hh (by simp at h1 ⊢; omega)]
    intro hm b1 hs
    have S1 := S0.trans hs
    have A1 := hA.same S1
    rw [hit_miss ?m1] at hstop
    case m1 =>
      rcases hm with hm | hm
      · exact .inl hm
      · right; simp at hm ⊢; omega
    clear hm hs
    show Code.wp _ _ _ _ _
    refine wp_seq (q2 (hi := 108) hc A1 ?_ ?_ ?n2 ?x2)
    any_goals decide
    case x2 =>
      intro hh h1 a' hs
      refine yes _ (.inr (S1.trans hs)) ?_
      rw [hstop, hit_hit hh (by simp at h1 ⊢; omega)]
    intro hm b2 hs
    have S2 := S1.trans hs
    have A2 := hA.same S2
    rw [hit_miss ?m2] at hstop
    case m2 =>
      rcases hm with hm | hm
      · exact .inl hm
      · right; simp at hm ⊢; omega
    clear hm hs
    show Code.wp _ _ _ _ _
    refine wp_seq (q1 (hi := 108) hc A2 ?_ ?_ ?n3 ?x3)
    any_goals decide
    case x3 =>
      intro hh h1 a' hs
      refine yes _ (.inr (S2.trans hs)) ?_
      rw [hstop, hit_hit hh (by simp at h1 ⊢; omega)]
    intro hm b3 hs
    have S3 := S2.trans hs
    have A3 := hA.same S3
    rw [hit_miss ?m3] at hstop
    case m3 =>
      rcases hm with hm | hm
      · exact .inl hm
      · right; simp at hm ⊢; omega
    clear hm hs
    show Code.wp _ _ _ _ _
    refine wp_seq (q1 (hi := 108) hc A3 ?_ ?_ ?n4 ?x4)
    any_goals decide
    case x4 =>
      intro hh h1 a' hs
      refine yes _ (.inr (S3.trans hs)) ?_
      rw [hstop, hit_hit hh (by simp at h1 ⊢; omega)]
    intro hm b4 hs
    have S4 := S3.trans hs
    have A4 := hA.same S4
    rw [hit_miss ?m4] at hstop
    case m4 =>
      rcases hm with hm | hm
      · exact .inl hm
      · right; simp at hm ⊢; omega
    clear hm hs
    show Code.wp _ _ _ _ _
    refine wp_seq (q1 (hi := 108) hc A4 ?_ ?_ ?n5 ?x5)
    any_goals decide
    case x5 =>
      intro hh h1 a' hs
      refine yes _ (.inr (S4.trans hs)) ?_
      rw [hstop, hit_hit hh (by simp at h1 ⊢; omega)]
    intro hm b5 hs
    have S5 := S4.trans hs
    have A5 := hA.same S5
    rw [hit_miss ?m5] at hstop
    case m5 =>
      rcases hm with hm | hm
      · exact .inl hm
      · right; simp at hm ⊢; omega
    clear hm hs
    show Code.wp _ _ _ _ _
    refine wp_seq (q1 (hi := 108) hc A5 ?_ ?_ ?n6 ?x6)
    any_goals decide
    case x6 =>
      intro hh h1 a' hs
      refine yes _ (.inr (S5.trans hs)) ?_
      rw [hstop, hit_hit hh (by simp at h1 ⊢; omega)]
    intro hm b6 hs
    have S6 := S5.trans hs
    have A6 := hA.same S6
    rw [hit_miss ?m6] at hstop
    case m6 =>
      rcases hm with hm | hm
      · exact .inl hm
      · right; simp at hm ⊢; omega
    clear hm hs
    show Code.wp _ _ _ _ _
    refine wp_seq (q1 (hi := 108) hc A6 ?_ ?_ ?n7 ?x7)
    any_goals decide
    case x7 =>
      intro hh h1 a' hs
      refine yes _ (.inr (S6.trans hs)) ?_
      rw [hstop, hit_hit hh (by simp at h1 ⊢; omega)]
    intro hm b7 hs
    have S7 := S6.trans hs
    have A7 := hA.same S7
    rw [hit_miss ?m7] at hstop
    case m7 =>
      rcases hm with hm | hm
      · exact .inl hm
      · right; simp at hm ⊢; omega
    clear hm hs
    show Code.wp _ _ _ _ _
    refine wp_seq (q1 (hi := 108) hc A7 ?_ ?_ ?n8 ?x8)
    any_goals decide
    case x8 =>
      intro hh h1 a' hs
      refine yes _ (.inr (S7.trans hs)) ?_
      rw [hstop, hit_hit hh (by simp at h1 ⊢; omega)]
    intro hm b8 hs
    have S8 := S7.trans hs
    have A8 := hA.same S8
    rw [hit_miss ?m8] at hstop
    case m8 =>
      rcases hm with hm | hm
      · exact .inl hm
      · right; simp at hm ⊢; omega
    clear hm hs
    show Code.wp _ _ _ _ _
    refine wp_seq (q1 (hi := 108) hc A8 ?_ ?_ ?n9 ?x9)
    any_goals decide
    case x9 =>
      intro hh h1 a' hs
      refine yes _ (.inr (S8.trans hs)) ?_
      rw [hstop, hit_hit hh (by simp at h1 ⊢; omega)]
    intro hm b9 hs
    have S9 := S8.trans hs
    have A9 := hA.same S9
    rw [hit_miss ?m9] at hstop
    case m9 =>
      rcases hm with hm | hm
      · exact .inl hm
      · right; simp at hm ⊢; omega
    clear hm hs
    show Code.wp _ _ _ _ _
    refine wp_seq (q1 (hi := 108) hc A9 ?_ ?_ ?n10 ?x10)
    any_goals decide
    case x10 =>
      intro hh h1 a' hs
      refine yes _ (.inr (S9.trans hs)) ?_
      rw [hstop, hit_hit hh (by simp at h1 ⊢; omega)]
    intro hm b10 hs
    have S10 := S9.trans hs
    have A10 := hA.same S10
    rw [hit_miss ?m10] at hstop
    case m10 =>
      rcases hm with hm | hm
      · exact .inl hm
      · right; simp at hm ⊢; omega
    clear hm hs
    show Code.wp _ _ _ _ _
    refine wp_seq (q1 (hi := 108) hc A10 ?_ ?_ ?n11 ?x11)
    any_goals decide
    case x11 =>
      intro hh h1 a' hs
      refine yes _ (.inr (S10.trans hs)) ?_
      rw [hstop, hit_hit hh (by simp at h1 ⊢; omega)]
    intro hm b11 hs
    have S11 := S10.trans hs
    have A11 := hA.same S11
    rw [hit_miss ?m11] at hstop
    case m11 =>
      rcases hm with hm | hm
      · exact .inl hm
      · right; simp at hm ⊢; omega
    clear hm hs
    show Code.wp _ _ _ _ _
    refine wp_seq (q1 (hi := 108) hc A11 ?_ ?_ ?n12 ?x12)
    any_goals decide
    case x12 =>
      intro hh h1 a' hs
      refine yes _ (.inr (S11.trans hs)) ?_
      rw [hstop, hit_hit hh (by simp at h1 ⊢; omega)]
    intro hm b12 hs
    have S12 := S11.trans hs
    have A12 := hA.same S12
    rw [hit_miss ?m12] at hstop
    case m12 =>
      rcases hm with hm | hm
      · exact .inl hm
      · right; simp at hm ⊢; omega
    clear hm hs
    show Code.wp _ _ _ _ _
    refine wp_seq (q1 (hi := 108) hc A12 ?_ ?_ ?n13 ?x13)
    any_goals decide
    case x13 =>
      intro hh h1 a' hs
      refine yes _ (.inr (S12.trans hs)) ?_
      rw [hstop, hit_hit hh (by simp at h1 ⊢; omega)]
    intro hm b13 hs
    have S13 := S12.trans hs
    have A13 := hA.same S13
    rw [hit_miss ?m13] at hstop
    case m13 =>
      rcases hm with hm | hm
      · exact .inl hm
      · right; simp at hm ⊢; omega
    clear hm hs
    show Code.wp _ _ _ _ _
    refine wp_seq (q2 (hi := 108) hc A13 ?_ ?_ ?n14 ?x14)
    any_goals decide
    case x14 =>
      intro hh h1 a' hs
      refine yes _ (.inr (S13.trans hs)) ?_
      rw [hstop, hit_hit hh (by simp at h1 ⊢; omega)]
    intro hm b14 hs
    have S14 := S13.trans hs
    have A14 := hA.same S14
    rw [hit_miss ?m14] at hstop
    case m14 =>
      rcases hm with hm | hm
      · exact .inl hm
      · right; simp at hm ⊢; omega
    clear hm hs
    show Code.wp _ _ _ _ _
    refine wp_seq (q1 (hi := 108) hc A14 ?_ ?_ ?n15 ?x15)
    any_goals decide
    case x15 =>
      intro hh h1 a' hs
      refine yes _ (.inr (S14.trans hs)) ?_
      rw [hstop, hit_hit hh (by simp at h1 ⊢; omega)]
    intro hm b15 hs
    have S15 := S14.trans hs
    have A15 := hA.same S15
    rw [hit_miss ?m15] at hstop
    case m15 =>
      rcases hm with hm | hm
      · exact .inl hm
      · right; simp at hm ⊢; omega
    clear hm hs
    show Code.wp _ _ _ _ _
    refine wp_seq (q1 (hi := 108) hc A15 ?_ ?_ ?n16 ?x16)
    any_goals decide
    case x16 =>
      intro hh h1 a' hs
      refine yes _ (.inr (S15.trans hs)) ?_
      rw [hstop, hit_hit hh (by simp at h1 ⊢; omega)]
    intro hm b16 hs
    have S16 := S15.trans hs
    have A16 := hA.same S16
    rw [hit_miss ?m16] at hstop
    case m16 =>
      rcases hm with hm | hm
      · exact .inl hm
      · right; simp at hm ⊢; omega
    clear hm hs
    show Code.wp _ _ _ _ _
    refine wp_seq (q1 (hi := 108) hc A16 ?_ ?_ ?n17 ?x17)
    any_goals decide
    case x17 =>
      intro hh h1 a' hs
      refine yes _ (.inr (S16.trans hs)) ?_
      rw [hstop, hit_hit hh (by simp at h1 ⊢; omega)]
    intro hm b17 hs
    have S17 := S16.trans hs
    have A17 := hA.same S17
    rw [hit_miss ?m17] at hstop
    case m17 =>
      rcases hm with hm | hm
      · exact .inl hm
      · right; simp at hm ⊢; omega
    clear hm hs
    show Code.wp _ _ _ _ _
    refine wp_seq (q6 (hi := 108) hc A17 ?_ ?_ ?n18 ?x18)
    any_goals decide
    case x18 =>
      intro hh h1 a' hs
      refine yes _ (.inr (S17.trans hs)) ?_
      rw [hstop, hit_hit hh ((mem_signs _).2 h1)]
    intro hm b18 hs
    have S18 := S17.trans hs
    rw [hit_miss ?m18] at hstop
    case m18 =>
      rcases hm with hm | h1
      · exact .inl hm
      · right; rw [mem_signs, h1]; decide
    show Code.wp _ _ _ _ _
    refine wp_seq (wp_region_lit (assign ?_))
    refine wpList_nil ?_
    rw [eval_const]
    show Code.wp _ _ _ _ _
    refine wp_ret ?_
    have hsz : b18.tmps.size = a0.tmps.size := S18.size
    exact ret_any hres ((defers_put _ _ _).trans (S18.defers.trans hA.defers)) (eval_same _ _ _ (by have := hA.size; omega)) ⟨by rw [hstop]; rfl, rfl⟩
end Go.Proofs.YtlgoghonnnobfaaDoor.Enc
