/- MultiEncoder.Decode: the rounds of its loop. -/
import Derived.Test.YtlgoghonnnobfaaDoorMa
import Derived.Test.YtlgoghonnnobfaaDoorMb
import Derived.Test.YtlgoghonnnobfaaDoorShelf
import Derived.Test.YtlgoghonnnobfaaDoorWWords
import Derived.WalkKit
import Derived.Lib.Hide
import Derived.Lib.BufferRead
import Derived.Lib.SmallJoins
import Derived.Lib.ConvBytes
import Derived.Laws.Rows
import Derived.Below
import Derived.Deep.LoopGhost
import Derived.WalkSmall
import Derived.BigQuiet
import Derived.Deep.QuietTactic
import Derived.RegionTactic
import Derived.IntWalk
import Derived.WideShapes
import Derived.Lib.TrimUEq
namespace Go.Proofs.YtlgoghonnnobfaaDoor.Dec
open Go Go.RowKit Go.Proofs.YtlgoghonnnobfaaDoor.Fr
set_option linter.unusedVariables false
set_option linter.unusedSimpArgs false
/-! ### the pieces of the decoder's rounds -/
structure Ctx (N : Nat) (pm pb : Addr) (r : Int) (uq : Bool) (a : Act) : Prop where
  size : a.tmps.size = N
  mask : a.eval (.tmp 2) = .pointer (some pm)
  rune : a.eval (.tmp 25) = .int .i32 r
  buf : a.eval (.tmp 20) = .pointer (some pb)
  uq : a.eval (.tmp 21) = .bool uq
theorem Ctx.same {N lo hi : Nat} {pm pb : Addr} {r : Int} {uq : Bool} {a a' : Act} (h : Ctx N pm pb r uq a) (hs : Same lo hi a a') (hlo : 25 < lo) : Ctx N pm pb r uq a' :=
  ⟨hs.size.trans h.size, (hs.slot 2 (by omega)).trans h.mask, (hs.slot 25 (by omega)).trans h.rune, (hs.slot 20 (by omega)).trans h.buf, (hs.slot 21 (by omega)).trans h.uq⟩
section
variable {Q : Exit → Act → World → Prop} {a : Act} {w : World} {N lo hi lim : Nat} {m r : Int} {uq : Bool} {pm pb : Addr} {I : List UInt8 → World → Prop} {acc : List UInt8}
theorem r_wconst {id s : Nat} {c : Int} {p : String} (E : Env lim m pm pb I) (hL : acc.length ≤ lim) (hC : Ctx N pm pb r uq a) (hI : I acc w) (hc0 : -2147483648 ≤ c) (hc1 : c ≤ 2147483647)
    (h : ∀ v w', I (acc ++ Lib.encodeRune c) w' → Q .normal (a.put (some s) v) w') :
    (Code.region (id) #[{ dst := some (s), op := .call { callee := .value (.func 47), args := #[.tmp 20, .const (.int .i32 c)], argTypes := #[56, 21] }, type := 60, pos := p, after := #[], guard := none }] false).wp Tryd.prog Q a w := by
  refine wp_region_lit ?_
  refine call enters47 ?_
  have e : (#[Operand.tmp 20, .const (.int .i32 c)]).map a.eval = #[.pointer (some pb), .int .i32 c] := by simp [hC.buf, eval_const]
  rw [e]
  exact (E.write acc w c hL hI hc0 hc1).mono fun e w' hh => by obtain ⟨v, rfl, h2⟩ := hh; exact ⟨v, rfl, h v w' h2⟩
theorem r_wmove {id s : Nat} {p1 p2 : String} (E : Env lim m pm pb I) (hL : acc.length ≤ lim) (hC : Ctx N pm pb r uq a) (hI : I acc w) (hs : 25 < s) (hsN : s < N) (hc0 : -2147483648 ≤ r) (hc1 : r ≤ 2147483647)
    (h : ∀ v w', I (acc ++ Lib.encodeRune r) w' → Q .normal ((a.put (some s) (.int .i32 r)).put (some (s + 1)) v) w') :
    (Code.region (id) #[{ dst := some (s), op := .move (.tmp 25), type := 21, pos := p1, after := #[], guard := none }, { dst := some (s + 1), op := .call { callee := .value (.func 47), args := #[.tmp 20, .tmp (s)], argTypes := #[56, 21] }, type := 60, pos := p2, after := #[{ on := 0, ground := .data }], guard := none }] false).wp Tryd.prog Q a w := by
  refine wp_region_lit ?_
  refine Fr.move ?_
  refine call enters47 ?_
  rw [hC.rune]
  have e : (#[Operand.tmp 20, .tmp s]).map (a.put (some s) (.int .i32 r)).eval = #[.pointer (some pb), .int .i32 r] := by
    simp [eval_same _ _ _ (show s < a.tmps.size by rw [hC.size]; exact hsN), eval_other _ s 20 _ (by omega), hC.buf]
  rw [e]
  exact (E.write acc w r hL hI hc0 hc1).mono fun e w' hh => by obtain ⟨v, rfl, h2⟩ := hh; exact ⟨v, rfl, h v w' h2⟩
theorem r_wsub {id s : Nat} {off : Int} {p1 p2 p3 : String} (E : Env lim m pm pb I) (hL : acc.length ≤ lim) (hC : Ctx N pm pb r uq a) (hI : I acc w) (hs : 25 < s) (hsN : s + 2 < N)
    (h : ∀ v w', I (acc ++ Lib.encodeRune (IntKind.i32.wrap (r - off))) w' → Q .normal (((a.put (some s) (.int .i32 r)).put (some (s + 1)) (.int .i32 (IntKind.i32.wrap (r - off)))).put (some (s + 2)) v) w') :
    (Code.region (id) #[{ dst := some (s), op := .move (.tmp 25), type := 21, pos := p1, after := #[], guard := none }, { dst := some (s + 1), op := .binOp .sub 21 (.tmp (s)) (.const (.int .i32 off)) 21, type := 21, pos := p2, after := #[{ on := 0, ground := .data }], guard := none }, { dst := some (s + 2), op := .call { callee := .value (.func 47), args := #[.tmp 20, .tmp (s + 1)], argTypes := #[56, 21] }, type := 60, pos := p3, after := #[{ on := 1, ground := .data }], guard := none }] false).wp Tryd.prog Q a w := by
  refine wp_region_lit ?_
  refine Fr.move ?_
  rw [hC.rune]
  refine Fr.step rfl (run_subi (m := r) (n := off) Tryd.underlying21 (eval_same _ _ _ (by rw [hC.size]; omega)) rfl) ?_
  refine call enters47 ?_
  have e : (#[Operand.tmp 20, .tmp (s + 1)]).map ((a.put (some s) (.int .i32 r)).put (some (s + 1)) (.int .i32 (IntKind.i32.wrap (r - off)))).eval = #[.pointer (some pb), .int .i32 (IntKind.i32.wrap (r - off))] := by
    simp [eval_same _ _ _ (show s + 1 < (a.put (some s) (.int .i32 r)).tmps.size by rw [size_put, hC.size]; omega), eval_other _ (s + 1) 20 _ (by omega), eval_other _ s 20 _ (by omega), hC.buf]
  rw [e]
  have hw := IntKind.wrap_i32 (r - off)
  exact (E.write acc w _ hL hI (by omega) (by omega)).mono fun e w' hh => by obtain ⟨v, rfl, h2⟩ := hh; exact ⟨v, rfl, h v w' h2⟩
/-- The sign itself behind a quote, else the character for which it stands. -/
theorem act {id s ex : Nat} {off : Int} {p0 p1 p2 p3 p4 p5 : String} (E : Env lim m pm pb I) (hL : acc.length ≤ lim) (hC : Ctx N pm pb r uq a) (hI : I acc w) (hlo : 25 < lo) (hs : lo ≤ s) (hsN : s + 5 ≤ hi) (hhi : hi < N) (hr0 : 0 ≤ r) (hr1 : r ≤ 1114111)
    (hx : ∀ a' w', Same lo hi a a' → I (acc ++ Lib.encodeRune (if uq = true then r else IntKind.i32.wrap (r - off))) w' → Q (.exit ex) a' w') :
    (((Code.region (id) #[{ dst := some (s), op := .move (.tmp 21), type := 4, pos := p0, after := #[], guard := none }] false).seq (Code.cond (.tmp s) (Code.region (id + 1) #[{ dst := some (s + 1), op := .move (.tmp 25), type := 21, pos := p1, after := #[], guard := none }, { dst := some (s + 1 + 1), op := .call { callee := .value (.func 47), args := #[.tmp 20, .tmp (s + 1)], argTypes := #[56, 21] }, type := 60, pos := p2, after := #[{ on := 0, ground := .data }], guard := none }] false) (Code.region (id + 2) #[{ dst := some (s + 3), op := .move (.tmp 25), type := 21, pos := p3, after := #[], guard := none }, { dst := some (s + 3 + 1), op := .binOp .sub 21 (.tmp (s + 3)) (.const (.int .i32 off)) 21, type := 21, pos := p4, after := #[{ on := 0, ground := .data }], guard := none }, { dst := some (s + 3 + 2), op := .call { callee := .value (.func 47), args := #[.tmp 20, .tmp (s + 3 + 1)], argTypes := #[56, 21] }, type := 60, pos := p5, after := #[{ on := 1, ground := .data }], guard := none }] false))).seq (Code.exit ex)).wp Tryd.prog Q a w := by
  refine wp_seq ?_
  refine wp_seq (r_move ?_)
  show Code.wp _ _ _ _ _
  rw [hC.uq]
  have s1 := (Same.refl a : Same lo hi a a).put s (.bool uq) (by omega) (by omega)
  have e1 := eval_same a s (.bool uq) (by rw [hC.size]; omega)
  have hC1 := hC.same s1 hlo
  generalize a.put (some s) (.bool uq) = a1 at s1 e1 hC1
  refine wp_cond e1 ?_
  cases uq with
  | true =>
    rw [if_pos rfl]
    refine r_wmove E hL hC1 hI (by omega) (by omega) (by omega) (by omega) fun v w' hI' => ?_
    show Code.wp _ _ _ _ _
    refine wp_exit ?_
    exact hx _ _ ((s1.put _ _ (by omega) (by omega)).put _ _ (by omega) (by omega)) (by rw [if_pos rfl]; exact hI')
  | false =>
    rw [if_neg (by decide)]
    refine r_wsub E hL hC1 hI (by omega) (by omega) fun v w' hI' => ?_
    show Code.wp _ _ _ _ _
    refine wp_exit ?_
    exact hx _ _ (((s1.put _ _ (by omega) (by omega)).put _ _ (by omega) (by omega)).put _ _ (by omega) (by omega)) (by rw [if_neg (by decide)]; exact hI')
theorem actc {id s ex : Nat} {c : Int} {p0 p1 p2 p3 : String} (E : Env lim m pm pb I) (hL : acc.length ≤ lim) (hC : Ctx N pm pb r uq a) (hI : I acc w) (hlo : 25 < lo) (hs : lo ≤ s) (hsN : s + 3 ≤ hi) (hhi : hi < N) (hr0 : 0 ≤ r) (hr1 : r ≤ 1114111) (hc0 : -2147483648 ≤ c) (hc1 : c ≤ 2147483647)
    (hx : ∀ a' w', Same lo hi a a' → I (acc ++ Lib.encodeRune (if uq = true then r else c)) w' → Q (.exit ex) a' w') :
    (((Code.region (id) #[{ dst := some (s), op := .move (.tmp 21), type := 4, pos := p0, after := #[], guard := none }] false).seq (Code.cond (.tmp s) (Code.region (id + 1) #[{ dst := some (s + 1), op := .move (.tmp 25), type := 21, pos := p1, after := #[], guard := none }, { dst := some (s + 1 + 1), op := .call { callee := .value (.func 47), args := #[.tmp 20, .tmp (s + 1)], argTypes := #[56, 21] }, type := 60, pos := p2, after := #[{ on := 0, ground := .data }], guard := none }] false) (Code.region (id + 2) #[{ dst := some (s + 3), op := .call { callee := .value (.func 47), args := #[.tmp 20, .const (.int .i32 c)], argTypes := #[56, 21] }, type := 60, pos := p3, after := #[], guard := none }] false))).seq (Code.exit ex)).wp Tryd.prog Q a w := by
  refine wp_seq ?_
  refine wp_seq (r_move ?_)
  show Code.wp _ _ _ _ _
  rw [hC.uq]
  have s1 := (Same.refl a : Same lo hi a a).put s (.bool uq) (by omega) (by omega)
  have e1 := eval_same a s (.bool uq) (by rw [hC.size]; omega)
  have hC1 := hC.same s1 hlo
  generalize a.put (some s) (.bool uq) = a1 at s1 e1 hC1
  refine wp_cond e1 ?_
  cases uq with
  | true =>
    rw [if_pos rfl]
    refine r_wmove E hL hC1 hI (by omega) (by omega) (by omega) (by omega) fun v w' hI' => ?_
    show Code.wp _ _ _ _ _
    refine wp_exit ?_
    exact hx _ _ ((s1.put _ _ (by omega) (by omega)).put _ _ (by omega) (by omega)) (by rw [if_pos rfl]; exact hI')
  | false =>
    rw [if_neg (by decide)]
    refine r_wconst E hL hC1 hI hc0 hc1 fun v w' hI' => ?_
    show Code.wp _ _ _ _ _
    refine wp_exit ?_
    exact hx _ _ (s1.put _ _ (by omega) (by omega)) (by rw [if_neg (by decide)]; exact hI')
theorem d1 {id bk ex s : Nat} {f d1 off : Int} {p0 p1 p2 p3 p4 p5 p6 q0 q1 q2 q3 q4 q5 : String} (E : Env lim m pm pb I) (hL : acc.length ≤ lim) (hC : Ctx N pm pb r uq a) (hI : I acc w) (hr0 : 0 ≤ r) (hr1 : r ≤ 1114111)
    (hlo : 25 < lo) (hs : lo ≤ s) (hsN : s + 10 ≤ hi) (hhi : hi < N) (hne : ex ≠ bk)
    (hn : (hb m f = false ∨ (r == d1) = false) → ∀ a', Same lo hi a a' → Q .normal a' w)
    (hx : hb m f = true → (r == d1) = true → ∀ a' w', Same lo hi a a' → I (acc ++ Lib.encodeRune (if uq = true then r else IntKind.i32.wrap (r - off))) w' → Q (.exit ex) a' w') :
    ((Code.region id #[{ dst := some s, op := .load 39 (.tmp 2), type := 39, pos := p0, after := #[], guard := none }, { dst := some (s + 1), op := .call { callee := .value (.func 40), args := #[.tmp s, .const (.int .u64 f)], argTypes := #[39, 39] }, type := 4, pos := p1, after := #[{ on := 0, ground := .data }], guard := none }] false).seq (Code.cond (.tmp (s + 1)) ((Code.region (id + 1) #[{ dst := some (s + 2), op := .move (.tmp 25), type := 21, pos := p2, after := #[], guard := none }] false).seq (Code.block bk ((Code.region (id + 2) #[{ dst := some (s + 4), op := .binOp .eql 21 (.tmp (s + 2)) (.const (.int .i32 d1)) 21, type := 4, pos := p3, after := #[], guard := none }, { dst := some (s + 3), op := .assign (.tmp (s + 4)), type := 4, pos := p4, after := #[{ on := 0, ground := .data }], guard := none }] false).seq (Code.cond (.tmp (s + 3)) (((Code.region (id + 3) #[{ dst := some (s + 5), op := .move (.tmp 21), type := 4, pos := q0, after := #[], guard := none }] false).seq (Code.cond (.tmp (s + 5)) (Code.region (id + 3 + 1) #[{ dst := some (s + 5 + 1), op := .move (.tmp 25), type := 21, pos := q1, after := #[], guard := none }, { dst := some (s + 5 + 1 + 1), op := .call { callee := .value (.func 47), args := #[.tmp 20, .tmp (s + 5 + 1)], argTypes := #[56, 21] }, type := 60, pos := q2, after := #[{ on := 0, ground := .data }], guard := none }] false) (Code.region (id + 3 + 2) #[{ dst := some (s + 5 + 3), op := .move (.tmp 25), type := 21, pos := q3, after := #[], guard := none }, { dst := some (s + 5 + 3 + 1), op := .binOp .sub 21 (.tmp (s + 5 + 3)) (.const (.int .i32 off)) 21, type := 21, pos := q4, after := #[{ on := 0, ground := .data }], guard := none }, { dst := some (s + 5 + 3 + 2), op := .call { callee := .value (.func 47), args := #[.tmp 20, .tmp (s + 5 + 3 + 1)], argTypes := #[56, 21] }, type := 60, pos := q5, after := #[{ on := 1, ground := .data }], guard := none }] false))).seq (Code.exit ex)) Code.skip)))) Code.skip)).wp Tryd.prog Q a w := by
  have hN := hC.size
  refine wp_seq (r_has (by omega) hC.mask (E.cell _ _ hI) ?_)
  show Code.wp _ _ _ _ _
  refine wp_cond (eval_same _ _ _ (by rw [size_put]; omega)) ?_
  have s0 : Same lo hi a ((a.put (some s) (.int .u64 m)).put (some (s + 1)) (.bool (hb m f))) := ((Same.refl a).put _ _ (by omega) (by omega)).put _ _ (by omega) (by omega)
  generalize (a.put (some s) (.int .u64 m)).put (some (s + 1)) (.bool (hb m f)) = a1 at s0
  have hC1 := hC.same s0 hlo
  cases hh : hb m f with
  | false => exact wp_skip (hn (.inl hh) _ s0)
  | true =>
    rw [if_pos rfl]
    refine wp_seq (r_move ?_)
    show Code.wp _ _ _ _ _
    rw [hC1.rune]
    have s1 := s0.put (s + 2) (.int .i32 r) (by omega) (by omega)
    have e1 := eval_same a1 (s + 2) (.int .i32 r) (by rw [hC1.size]; omega)
    generalize a1.put (some (s + 2)) (.int .i32 r) = a2 at s1 e1
    refine wp_block ?_
    refine wp_seq (r_eq (by rw [s1.size]; omega) e1 ?_)
    show Code.wp _ _ _ _ _
    have s2 := (s1.put (s + 4) (.bool (r == d1)) (by omega) (by omega)).put (s + 3) (.bool (r == d1)) (by omega) (by omega)
    have t3 := eval_same (a2.put (some (s + 4)) (.bool (r == d1))) (s + 3) (.bool (r == d1)) (by rw [size_put, s1.size]; omega)
    generalize (a2.put (some (s + 4)) (.bool (r == d1))).put (some (s + 3)) (.bool (r == d1)) = a3 at s2 t3
    refine wp_cond t3 ?_
    have hC3 := hC.same s2 hlo
    cases h1 : (r == d1) with
    | true =>
      rw [if_pos rfl]
      refine act (lo := lo) (hi := hi) E hL hC3 hI hlo (by omega) (by omega) hhi hr0 hr1 fun a' w' s3 hI' => ?_
      simp only [Exit.inBlock, if_neg hne]
      exact hx hh h1 _ _ (s2.trans s3) hI'
    | false =>
      rw [if_neg (by simp)]
      exact wp_skip (hn (.inr h1) _ s2)
theorem d2 {id bk ex s : Nat} {f d1 d2 off : Int} {p0 p1 p2 p3 p4 p5 p6 q0 q1 q2 q3 q4 q5 : String} (E : Env lim m pm pb I) (hL : acc.length ≤ lim) (hC : Ctx N pm pb r uq a) (hI : I acc w) (hr0 : 0 ≤ r) (hr1 : r ≤ 1114111)
    (hlo : 25 < lo) (hs : lo ≤ s) (hsN : s + 11 ≤ hi) (hhi : hi < N) (hne : ex ≠ bk)
    (hn : (hb m f = false ∨ (r == d1 || r == d2) = false) → ∀ a', Same lo hi a a' → Q .normal a' w)
    (hx : hb m f = true → (r == d1 || r == d2) = true → ∀ a' w', Same lo hi a a' → I (acc ++ Lib.encodeRune (if uq = true then r else IntKind.i32.wrap (r - off))) w' → Q (.exit ex) a' w') :
    ((Code.region id #[{ dst := some s, op := .load 39 (.tmp 2), type := 39, pos := p0, after := #[], guard := none }, { dst := some (s + 1), op := .call { callee := .value (.func 40), args := #[.tmp s, .const (.int .u64 f)], argTypes := #[39, 39] }, type := 4, pos := p1, after := #[{ on := 0, ground := .data }], guard := none }] false).seq (Code.cond (.tmp (s + 1)) ((Code.region (id + 1) #[{ dst := some (s + 2), op := .move (.tmp 25), type := 21, pos := p2, after := #[], guard := none }] false).seq (Code.block bk (((Code.region (id + 2) #[{ dst := some (s + 4), op := .binOp .eql 21 (.tmp (s + 2)) (.const (.int .i32 d1)) 21, type := 4, pos := p3, after := #[], guard := none }, { dst := some (s + 3), op := .assign (.tmp (s + 4)), type := 4, pos := p4, after := #[{ on := 0, ground := .data }], guard := none }] false).seq (Code.cond (.tmp (s + 3)) Code.skip (Code.region (id + 2 + 1) #[{ dst := some (s + 5), op := .binOp .eql 21 (.tmp (s + 2)) (.const (.int .i32 d2)) 21, type := 4, pos := p5, after := #[], guard := none }, { dst := some (s + 3), op := .assign (.tmp (s + 5)), type := 4, pos := p6, after := #[{ on := 0, ground := .data }], guard := none }] false))).seq (Code.cond (.tmp (s + 3)) (((Code.region (id + 4) #[{ dst := some (s + 6), op := .move (.tmp 21), type := 4, pos := q0, after := #[], guard := none }] false).seq (Code.cond (.tmp (s + 6)) (Code.region (id + 4 + 1) #[{ dst := some (s + 6 + 1), op := .move (.tmp 25), type := 21, pos := q1, after := #[], guard := none }, { dst := some (s + 6 + 1 + 1), op := .call { callee := .value (.func 47), args := #[.tmp 20, .tmp (s + 6 + 1)], argTypes := #[56, 21] }, type := 60, pos := q2, after := #[{ on := 0, ground := .data }], guard := none }] false) (Code.region (id + 4 + 2) #[{ dst := some (s + 6 + 3), op := .move (.tmp 25), type := 21, pos := q3, after := #[], guard := none }, { dst := some (s + 6 + 3 + 1), op := .binOp .sub 21 (.tmp (s + 6 + 3)) (.const (.int .i32 off)) 21, type := 21, pos := q4, after := #[{ on := 0, ground := .data }], guard := none }, { dst := some (s + 6 + 3 + 2), op := .call { callee := .value (.func 47), args := #[.tmp 20, .tmp (s + 6 + 3 + 1)], argTypes := #[56, 21] }, type := 60, pos := q5, after := #[{ on := 1, ground := .data }], guard := none }] false))).seq (Code.exit ex)) Code.skip)))) Code.skip)).wp Tryd.prog Q a w := by
  have hN := hC.size
  refine wp_seq (r_has (by omega) hC.mask (E.cell _ _ hI) ?_)
  show Code.wp _ _ _ _ _
  refine wp_cond (eval_same _ _ _ (by rw [size_put]; omega)) ?_
  have s0 : Same lo hi a ((a.put (some s) (.int .u64 m)).put (some (s + 1)) (.bool (hb m f))) := ((Same.refl a).put _ _ (by omega) (by omega)).put _ _ (by omega) (by omega)
  generalize (a.put (some s) (.int .u64 m)).put (some (s + 1)) (.bool (hb m f)) = a1 at s0
  have hC1 := hC.same s0 hlo
  cases hh : hb m f with
  | false => exact wp_skip (hn (.inl hh) _ s0)
  | true =>
    rw [if_pos rfl]
    refine wp_seq (r_move ?_)
    show Code.wp _ _ _ _ _
    rw [hC1.rune]
    have s1 := s0.put (s + 2) (.int .i32 r) (by omega) (by omega)
    have e1 := eval_same a1 (s + 2) (.int .i32 r) (by rw [hC1.size]; omega)
    generalize a1.put (some (s + 2)) (.int .i32 r) = a2 at s1 e1
    refine wp_block ?_
    refine wp_seq (r_or (lo := lo) (hi := hi) (by rw [s1.size]; omega) (by omega) (by omega) e1 fun a3 s2' t3 e3 => ?_)
    have s2 := s1.trans s2'
    show Code.wp _ _ _ _ _
    refine wp_cond t3 ?_
    have hC3 := hC.same s2 hlo
    cases h1 : (r == d1 || r == d2) with
    | true =>
      rw [if_pos rfl]
      refine act (lo := lo) (hi := hi) E hL hC3 hI hlo (by omega) (by omega) hhi hr0 hr1 fun a' w' s3 hI' => ?_
      simp only [Exit.inBlock, if_neg hne]
      exact hx hh h1 _ _ (s2.trans s3) hI'
    | false =>
      rw [if_neg (by simp)]
      exact wp_skip (hn (.inr h1) _ s2)
theorem d3 {id bk ex s : Nat} {f d1 c : Int} {p0 p1 p2 p3 p4 p5 p6 q0 q1 q2 q3 q4 q5 : String} (E : Env lim m pm pb I) (hL : acc.length ≤ lim) (hC : Ctx N pm pb r uq a) (hI : I acc w) (hr0 : 0 ≤ r) (hr1 : r ≤ 1114111)
    (hlo : 25 < lo) (hs : lo ≤ s) (hsN : s + 8 ≤ hi) (hhi : hi < N) (hne : ex ≠ bk) (hc : -2147483648 ≤ c ∧ c ≤ 2147483647)
    (hn : (hb m f = false ∨ (r == d1) = false) → ∀ a', Same lo hi a a' → Q .normal a' w)
    (hx : hb m f = true → (r == d1) = true → ∀ a' w', Same lo hi a a' → I (acc ++ Lib.encodeRune (if uq = true then r else c)) w' → Q (.exit ex) a' w') :
    ((Code.region id #[{ dst := some s, op := .load 39 (.tmp 2), type := 39, pos := p0, after := #[], guard := none }, { dst := some (s + 1), op := .call { callee := .value (.func 40), args := #[.tmp s, .const (.int .u64 f)], argTypes := #[39, 39] }, type := 4, pos := p1, after := #[{ on := 0, ground := .data }], guard := none }] false).seq (Code.cond (.tmp (s + 1)) ((Code.region (id + 1) #[{ dst := some (s + 2), op := .move (.tmp 25), type := 21, pos := p2, after := #[], guard := none }] false).seq (Code.block bk ((Code.region (id + 2) #[{ dst := some (s + 4), op := .binOp .eql 21 (.tmp (s + 2)) (.const (.int .i32 d1)) 21, type := 4, pos := p3, after := #[], guard := none }, { dst := some (s + 3), op := .assign (.tmp (s + 4)), type := 4, pos := p4, after := #[{ on := 0, ground := .data }], guard := none }] false).seq (Code.cond (.tmp (s + 3)) (((Code.region (id + 3) #[{ dst := some (s + 5), op := .move (.tmp 21), type := 4, pos := q0, after := #[], guard := none }] false).seq (Code.cond (.tmp (s + 5)) (Code.region (id + 3 + 1) #[{ dst := some (s + 5 + 1), op := .move (.tmp 25), type := 21, pos := q1, after := #[], guard := none }, { dst := some (s + 5 + 1 + 1), op := .call { callee := .value (.func 47), args := #[.tmp 20, .tmp (s + 5 + 1)], argTypes := #[56, 21] }, type := 60, pos := q2, after := #[{ on := 0, ground := .data }], guard := none }] false) (Code.region (id + 3 + 2) #[{ dst := some (s + 5 + 3), op := .call { callee := .value (.func 47), args := #[.tmp 20, .const (.int .i32 c)], argTypes := #[56, 21] }, type := 60, pos := q3, after := #[], guard := none }] false))).seq (Code.exit ex)) Code.skip)))) Code.skip)).wp Tryd.prog Q a w := by
  have hN := hC.size
  refine wp_seq (r_has (by omega) hC.mask (E.cell _ _ hI) ?_)
  show Code.wp _ _ _ _ _
  refine wp_cond (eval_same _ _ _ (by rw [size_put]; omega)) ?_
  have s0 : Same lo hi a ((a.put (some s) (.int .u64 m)).put (some (s + 1)) (.bool (hb m f))) := ((Same.refl a).put _ _ (by omega) (by omega)).put _ _ (by omega) (by omega)
  generalize (a.put (some s) (.int .u64 m)).put (some (s + 1)) (.bool (hb m f)) = a1 at s0
  have hC1 := hC.same s0 hlo
  cases hh : hb m f with
  | false => exact wp_skip (hn (.inl hh) _ s0)
  | true =>
    rw [if_pos rfl]
    refine wp_seq (r_move ?_)
    show Code.wp _ _ _ _ _
    rw [hC1.rune]
    have s1 := s0.put (s + 2) (.int .i32 r) (by omega) (by omega)
    have e1 := eval_same a1 (s + 2) (.int .i32 r) (by rw [hC1.size]; omega)
    generalize a1.put (some (s + 2)) (.int .i32 r) = a2 at s1 e1
    refine wp_block ?_
    refine wp_seq (r_eq (by rw [s1.size]; omega) e1 ?_)
    show Code.wp _ _ _ _ _
    have s2 := (s1.put (s + 4) (.bool (r == d1)) (by omega) (by omega)).put (s + 3) (.bool (r == d1)) (by omega) (by omega)
    have t3 := eval_same (a2.put (some (s + 4)) (.bool (r == d1))) (s + 3) (.bool (r == d1)) (by rw [size_put, s1.size]; omega)
    generalize (a2.put (some (s + 4)) (.bool (r == d1))).put (some (s + 3)) (.bool (r == d1)) = a3 at s2 t3
    refine wp_cond t3 ?_
    have hC3 := hC.same s2 hlo
    cases h1 : (r == d1) with
    | true =>
      rw [if_pos rfl]
      refine actc (lo := lo) (hi := hi) E hL hC3 hI hlo (by omega) (by omega) hhi hr0 hr1 hc.1 hc.2 fun a' w' s3 hI' => ?_
      simp only [Exit.inBlock, if_neg hne]
      exact hx hh h1 _ _ (s2.trans s3) hI'
    | false =>
      rw [if_neg (by simp)]
      exact wp_skip (hn (.inr h1) _ s2)
theorem r_and_gtr {id s : Nat} {c c' : Int} {p0 p1 p2 p3 p4 p5 : String} {g1 g2 g3 g4 g5 : Array Edge} (hx : a.eval (.tmp 25) = .int .i32 r) (hlo : 25 < lo) (hs : lo ≤ s) (hsN : s + 5 ≤ hi) (hhi : hi < a.tmps.size)
    (h : ∀ a', Same lo hi a a' → a'.eval (.tmp (s + 5)) = .bool (decide (c < r) && decide (r ≤ c')) → Q .normal a' w) :
    (Code.region (id) #[{ dst := some (s), op := .move (.tmp 25), type := 21, pos := p0, after := #[], guard := none }, { dst := some (s + 1), op := .binOp .gtr 21 (.tmp (s)) (.const (.int .i32 c)) 21, type := 4, pos := p1, after := g1, guard := none }, { dst := some (s + 2), op := .move (.tmp (s + 1)), type := 4, pos := p2, after := g2, guard := none }, { dst := some (s + 3), op := .move (.tmp 25), type := 21, pos := p3, after := g3, guard := some (2, true) }, { dst := some (s + 4), op := .binOp .leq 21 (.tmp (s + 3)) (.const (.int .i32 c')) 21, type := 4, pos := p4, after := g4, guard := some (2, true) }, { dst := some (s + 5), op := .pick (.tmp (s + 2)) (.tmp (s + 4)) (.const (.bool false)), type := 4, pos := p5, after := g5, guard := none }] false).wp Tryd.prog Q a w := by
  refine wp_region_lit ?_
  refine Fr.move ?_
  rw [hx]
  refine Fr.step rfl (run_gtr Tryd.underlying21 (eval_same _ _ _ (by omega)) rfl) ?_
  refine Fr.move ?_
  rw [eval_same _ _ _ (by rw [size_put]; omega)]
  have s1 : Same lo hi a (((a.put (some s) (.int .i32 r)).put (some (s + 1)) (.bool (decide (c < r)))).put (some (s + 2)) (.bool (decide (c < r)))) := (((Same.refl a).put _ _ (by omega) (by omega)).put _ _ (by omega) (by omega)).put _ _ (by omega) (by omega)
  have e2 := eval_same ((a.put (some s) (.int .i32 r)).put (some (s + 1)) (.bool (decide (c < r)))) (s + 2) (.bool (decide (c < r))) (by rw [size_put, size_put]; omega)
  show wpList _ _ _ _ (((a.put (some s) (.int .i32 r)).put (some (s + 1)) (.bool (decide (c < r)))).put (some (s + 2)) (.bool (decide (c < r)))) w
  generalize (((a.put (some s) (.int .i32 r)).put (some (s + 1)) (.bool (decide (c < r)))).put (some (s + 2)) (.bool (decide (c < r)))) = a1 at s1 e2
  have hz : s + 5 < a1.tmps.size := by rw [s1.size]; omega
  have hx1 : a1.eval (.tmp 25) = .int .i32 r := (s1.slot 25 (by omega)).trans hx
  cases hb1 : decide (c < r) with
  | true =>
    rw [hb1] at e2
    refine guard_yes (j := 2) (b := true) (d := s + 2) rfl rfl (by omega) e2 rfl ?_
    rw [hx1]
    refine guard_yes (j := 2) (b := true) (d := s + 2) rfl rfl (by rw [size_put]; omega) (by rw [eval_other _ _ _ _ (by omega)]; exact e2) (run_leq Tryd.underlying21 (eval_same _ _ _ (by omega)) rfl) ?_
    refine Fr.step rfl (run_pick (b := true) (by rw [eval_other _ _ _ _ (by omega), eval_other _ _ _ _ (by omega)]; exact e2)) ?_
    rw [if_pos rfl, eval_same _ _ _ (by rw [size_put]; omega)]
    refine h _ (((s1.put _ _ (by omega) (by omega)).put _ _ (by omega) (by omega)).put _ _ (by omega) (by omega)) ?_
    rw [hb1, Bool.true_and]
    exact eval_same _ _ _ (by rw [size_put, size_put]; omega)
  | false =>
    rw [hb1] at e2
    refine guard_no (j := 2) (b := true) (c := false) (d := s + 2) rfl rfl (by omega) e2 (by decide) ?_
    refine guard_no (j := 2) (b := true) (c := false) (d := s + 2) rfl rfl (by rw [size_put]; omega) (by rw [eval_other _ _ _ _ (by omega)]; exact e2) (by decide) ?_
    refine Fr.step rfl (run_pick (b := false) (by rw [eval_other _ _ _ _ (by omega), eval_other _ _ _ _ (by omega)]; exact e2)) ?_
    rw [if_neg (by decide), eval_const]
    refine h _ (((s1.put _ _ (by omega) (by omega)).put _ _ (by omega) (by omega)).put _ _ (by omega) (by omega)) ?_
    rw [hb1, Bool.false_and]
    exact eval_same _ _ _ (by rw [size_put, size_put]; omega)
theorem d4 {id ex s : Nat} {f c1 c2 off : Int} {p0 p1 p2 p3 p4 p5 p6 p7 q0 q1 q2 q3 q4 q5 : String} {g1 g2 g3 g4 g5 : Array Edge} (E : Env lim m pm pb I) (hL : acc.length ≤ lim) (hC : Ctx N pm pb r uq a) (hI : I acc w) (hr0 : 0 ≤ r) (hr1 : r ≤ 1114111)
    (hlo : 25 < lo) (hs : lo ≤ s) (hsN : s + 13 ≤ hi) (hhi : hi < N)
    (hn : (hb m f = false ∨ (decide (c1 < r) && decide (r ≤ c2)) = false) → ∀ a', Same lo hi a a' → Q .normal a' w)
    (hx : hb m f = true → (decide (c1 < r) && decide (r ≤ c2)) = true → ∀ a' w', Same lo hi a a' → I (acc ++ Lib.encodeRune (if uq = true then r else IntKind.i32.wrap (r - off))) w' → Q (.exit ex) a' w') :
    ((Code.region id #[{ dst := some s, op := .load 39 (.tmp 2), type := 39, pos := p0, after := #[], guard := none }, { dst := some (s + 1), op := .call { callee := .value (.func 40), args := #[.tmp s, .const (.int .u64 f)], argTypes := #[39, 39] }, type := 4, pos := p1, after := #[{ on := 0, ground := .data }], guard := none }] false).seq (Code.cond (.tmp (s + 1)) ((Code.region (id + 1) #[{ dst := some (s + 2), op := .move (.tmp 25), type := 21, pos := p2, after := #[], guard := none }, { dst := some (s + 2 + 1), op := .binOp .gtr 21 (.tmp (s + 2)) (.const (.int .i32 c1)) 21, type := 4, pos := p3, after := g1, guard := none }, { dst := some (s + 2 + 2), op := .move (.tmp (s + 2 + 1)), type := 4, pos := p4, after := g2, guard := none }, { dst := some (s + 2 + 3), op := .move (.tmp 25), type := 21, pos := p5, after := g3, guard := some (2, true) }, { dst := some (s + 2 + 4), op := .binOp .leq 21 (.tmp (s + 2 + 3)) (.const (.int .i32 c2)) 21, type := 4, pos := p6, after := g4, guard := some (2, true) }, { dst := some (s + 2 + 5), op := .pick (.tmp (s + 2 + 2)) (.tmp (s + 2 + 4)) (.const (.bool false)), type := 4, pos := p7, after := g5, guard := none }] false).seq (Code.cond (.tmp (s + 2 + 5)) (((Code.region (id + 2) #[{ dst := some (s + 8), op := .move (.tmp 21), type := 4, pos := q0, after := #[], guard := none }] false).seq (Code.cond (.tmp (s + 8)) (Code.region (id + 2 + 1) #[{ dst := some (s + 8 + 1), op := .move (.tmp 25), type := 21, pos := q1, after := #[], guard := none }, { dst := some (s + 8 + 1 + 1), op := .call { callee := .value (.func 47), args := #[.tmp 20, .tmp (s + 8 + 1)], argTypes := #[56, 21] }, type := 60, pos := q2, after := #[{ on := 0, ground := .data }], guard := none }] false) (Code.region (id + 2 + 2) #[{ dst := some (s + 8 + 3), op := .move (.tmp 25), type := 21, pos := q3, after := #[], guard := none }, { dst := some (s + 8 + 3 + 1), op := .binOp .sub 21 (.tmp (s + 8 + 3)) (.const (.int .i32 off)) 21, type := 21, pos := q4, after := #[{ on := 0, ground := .data }], guard := none }, { dst := some (s + 8 + 3 + 2), op := .call { callee := .value (.func 47), args := #[.tmp 20, .tmp (s + 8 + 3 + 1)], argTypes := #[56, 21] }, type := 60, pos := q5, after := #[{ on := 1, ground := .data }], guard := none }] false))).seq (Code.exit ex)) Code.skip)) Code.skip)).wp Tryd.prog Q a w := by
  have hN := hC.size
  refine wp_seq (r_has (by omega) hC.mask (E.cell _ _ hI) ?_)
  show Code.wp _ _ _ _ _
  refine wp_cond (eval_same _ _ _ (by rw [size_put]; omega)) ?_
  have s0 : Same lo hi a ((a.put (some s) (.int .u64 m)).put (some (s + 1)) (.bool (hb m f))) := ((Same.refl a).put _ _ (by omega) (by omega)).put _ _ (by omega) (by omega)
  generalize (a.put (some s) (.int .u64 m)).put (some (s + 1)) (.bool (hb m f)) = a1 at s0
  have hC1 := hC.same s0 hlo
  cases hh : hb m f with
  | false => exact wp_skip (hn (.inl hh) _ s0)
  | true =>
    rw [if_pos rfl]
    refine wp_seq (r_and_gtr (hi := hi) hC1.rune hlo (by omega) (by omega) (by rw [hC1.size]; omega) fun a4 s3' t4 => ?_)
    have s3 := s0.trans s3'
    have hC4 := hC.same s3 hlo
    show Code.wp _ _ _ _ _
    refine wp_cond t4 ?_
    cases h2 : (decide (c1 < r) && decide (r ≤ c2)) with
    | true =>
      rw [if_pos rfl]
      exact act (lo := lo) (hi := hi) E hL hC4 hI hlo (by omega) (by omega) hhi hr0 hr1 fun a' w' s5 hI' => hx hh h2 _ _ (s3.trans s5) hI'
    | false =>
      rw [if_neg (by simp)]
      exact wp_skip (hn (.inr h2) _ s3)
end
end Go.Proofs.YtlgoghonnnobfaaDoor.Dec
namespace Go.Proofs.YtlgoghonnnobfaaDoor.Dec
open Go Go.RowKit Go.Proofs.YtlgoghonnnobfaaDoor.Fr Go.Proofs.YtlgoghonnnobfaaDoor.Enc
set_option linter.unusedVariables false
set_option linter.unusedSimpArgs false
/-- What a sign is read as by bits, one behind the other. -/
def decBy (m r : Int) (uq : Bool) : List Bit → Option (List UInt8)
  | [] => none
  | b :: t => if hb m b.f = true ∧ r ∈ b.ds then some (Lib.encodeRune (if uq = true then r else r - b.off)) else decBy m r uq t
theorem dec_miss {m r f off : Int} {uq : Bool} {cs ds : List Int} {t : List Bit} (h : hb m f = false ∨ r ∉ ds) : decBy m r uq (⟨f, cs, ds, off⟩ :: t) = decBy m r uq t := by
  rw [decBy, if_neg (fun hh => by rcases h with h | h; exact absurd hh.1 (by rw [h]; decide); exact h hh.2)]
theorem dec_hit {m r f off : Int} {uq : Bool} {cs ds : List Int} {t : List Bit} (h : hb m f = true) (h1 : r ∈ ds) : decBy m r uq (⟨f, cs, ds, off⟩ :: t) = some (Lib.encodeRune (if uq = true then r else r - off)) := by
  rw [decBy, if_pos ⟨h, h1⟩]
theorem wrap_sub' {r off : Int} (h0 : 0 ≤ r) (h1 : r ≤ 1114111) (h2 : 0 ≤ off) (h3 : off ≤ 70000) : IntKind.i32.wrap (r - off) = r - off := by
  rw [IntKind.wrap_i32]; omega
set_option maxRecDepth 100000 in
set_option maxHeartbeats 2000000 in
theorem dchain {Q : Exit → Act → World → Prop} {a : Act} {w : World} {m r : Int} {uq : Bool} {pm pb : Addr} {I : List UInt8 → World → Prop} {acc : List UInt8} {lim : Nat} (E : Env lim m pm pb I) (hL : acc.length ≤ lim) (hC : Ctx 553 pm pb r uq a) (hI : I acc w) (hr0 : 0 ≤ r) (hr1 : r ≤ 1114111)
    (Hs : ∀ l a' w', decBy m r uq Enc.bits = some l → Same 288 547 a a' → I (acc ++ l) w' → Q (.exit 2) a' w')
    (Hn : decBy m r uq Enc.bits = none → ∀ a', Same 288 547 a a' → (piece [1, 1, 1, 1, 1, 1, 1, 1, 1, 1, 1, 1, 1, 1, 1, 1, 0, 1, 0, 0, 1, 1, 0, 1, 1, 1, 1, 1, 1, 1, 1, 1, 1, 1, 1, 1, 1, 1, 1, 1, 1, 1, 1, 1, 1, 1] (Tryd.f30.body.getD .skip)).wp Tryd.prog Q a' w) :
    (piece [1, 1, 1, 1, 1, 1, 1, 1, 1, 1, 1, 1, 1, 1, 1, 1, 0, 1, 0, 0, 1, 1, 0, 1, 1, 1, 1] (Tryd.f30.body.getD .skip)).wp Tryd.prog Q a w := by
  unfold Enc.bits Enc.full at Hs Hn
  generalize hB : decBy m r uq _ = B at Hs Hn
  conv => arg 2; whnf
  refine wp_seq (d1 (p5 := "") (p6 := "") (lo := 288) (hi := 547) E hL hC hI hr0 hr1 ?_ ?_ ?_ ?_ ?_ ?n0 ?x0)
  any_goals decide
  case x0 =>
    intro hh h1 a' w' hs hI2
    show Q (.exit 2) a' w'
    refine Hs _ a' w' ?_ hs hI2
    rw [← hB, dec_hit hh]
    rotate_left
    · simp only [beq_iff_eq] at h1; simp; omega
    rw [wrap_sub' hr0 hr1 (by decide) (by decide)]
  intro hm a1 hs
  have S1 := hs
  have hC1 := hC.same S1 (by decide)
  rw [dec_miss ?mi0] at hB
  rotate_left
  · rcases hm with hm | hm
    · exact .inl hm
    · simp only [beq_eq_false_iff_ne] at hm; right; simp; omega
  clear hm hs
  show Code.wp _ _ _ _ _
  refine wp_seq (d2 (lo := 288) (hi := 547) E hL hC1 hI hr0 hr1 ?_ ?_ ?_ ?_ ?_ ?n1 ?x1)
  any_goals decide
  case x1 =>
    intro hh h1 a' w' hs hI2
    show Q (.exit 2) a' w'
    refine Hs _ a' w' ?_ (S1.trans hs) hI2
    rw [← hB, dec_hit hh]
    rotate_left
    · simp only [Bool.or_eq_true, beq_iff_eq] at h1; simp; omega
    rw [wrap_sub' hr0 hr1 (by decide) (by decide)]
  intro hm a2 hs
  have S2 := S1.trans hs
  have hC2 := hC.same S2 (by decide)
  rw [dec_miss ?mi1] at hB
  rotate_left
  · rcases hm with hm | hm
    · exact .inl hm
    · simp only [Bool.or_eq_false_iff, beq_eq_false_iff_ne] at hm; right; simp; omega
  clear hm hs
  show Code.wp _ _ _ _ _
  refine wp_seq (d2 (lo := 288) (hi := 547) E hL hC2 hI hr0 hr1 ?_ ?_ ?_ ?_ ?_ ?n2 ?x2)
  any_goals decide
  case x2 =>
    intro hh h1 a' w' hs hI2
    show Q (.exit 2) a' w'
    refine Hs _ a' w' ?_ (S2.trans hs) hI2
    rw [← hB, dec_hit hh]
    rotate_left
    · simp only [Bool.or_eq_true, beq_iff_eq] at h1; simp; omega
    rw [wrap_sub' hr0 hr1 (by decide) (by decide)]
  intro hm a3 hs
  have S3 := S2.trans hs
  have hC3 := hC.same S3 (by decide)
  rw [dec_miss ?mi2] at hB
  rotate_left
  · rcases hm with hm | hm
    · exact .inl hm
    · simp only [Bool.or_eq_false_iff, beq_eq_false_iff_ne] at hm; right; simp; omega
  clear hm hs
  show Code.wp _ _ _ _ _
  refine wp_seq (d1 (p5 := "") (p6 := "") (lo := 288) (hi := 547) E hL hC3 hI hr0 hr1 ?_ ?_ ?_ ?_ ?_ ?n3 ?x3)
  any_goals decide
  case x3 =>
    intro hh h1 a' w' hs hI2
    show Q (.exit 2) a' w'
    refine Hs _ a' w' ?_ (S3.trans hs) hI2
    rw [← hB, dec_hit hh]
    rotate_left
    · simp only [beq_iff_eq] at h1; simp; omega
    rw [wrap_sub' hr0 hr1 (by decide) (by decide)]
  intro hm a4 hs
  have S4 := S3.trans hs
  have hC4 := hC.same S4 (by decide)
  rw [dec_miss ?mi3] at hB
  rotate_left
  · rcases hm with hm | hm
    · exact .inl hm
    · simp only [beq_eq_false_iff_ne] at hm; right; simp; omega
  clear hm hs
  show Code.wp _ _ _ _ _
  refine wp_seq (d1 (p5 := "") (p6 := "") (lo := 288) (hi := 547) E hL hC4 hI hr0 hr1 ?_ ?_ ?_ ?_ ?_ ?n4 ?x4)
  any_goals decide
  case x4 =>
    intro hh h1 a' w' hs hI2
    show Q (.exit 2) a' w'
    refine Hs _ a' w' ?_ (S4.trans hs) hI2
    rw [← hB, dec_hit hh]
    rotate_left
    · simp only [beq_iff_eq] at h1; simp; omega
    rw [wrap_sub' hr0 hr1 (by decide) (by decide)]
  intro hm a5 hs
  have S5 := S4.trans hs
  have hC5 := hC.same S5 (by decide)
  rw [dec_miss ?mi4] at hB
  rotate_left
  · rcases hm with hm | hm
    · exact .inl hm
    · simp only [beq_eq_false_iff_ne] at hm; right; simp; omega
  clear hm hs
  show Code.wp _ _ _ _ _
  refine wp_seq (d1 (p5 := "") (p6 := "") (lo := 288) (hi := 547) E hL hC5 hI hr0 hr1 ?_ ?_ ?_ ?_ ?_ ?n5 ?x5)
  any_goals decide
  case x5 =>
    intro hh h1 a' w' hs hI2
    show Q (.exit 2) a' w'
    refine Hs _ a' w' ?_ (S5.trans hs) hI2
    rw [← hB, dec_hit hh]
    rotate_left
    · simp only [beq_iff_eq] at h1; simp; omega
    rw [wrap_sub' hr0 hr1 (by decide) (by decide)]
  intro hm a6 hs
  have S6 := S5.trans hs
  have hC6 := hC.same S6 (by decide)
  rw [dec_miss ?mi5] at hB
  rotate_left
  · rcases hm with hm | hm
    · exact .inl hm
    · simp only [beq_eq_false_iff_ne] at hm; right; simp; omega
  clear hm hs
  show Code.wp _ _ _ _ _
  refine wp_seq (d1 (p5 := "") (p6 := "") (lo := 288) (hi := 547) E hL hC6 hI hr0 hr1 ?_ ?_ ?_ ?_ ?_ ?n6 ?x6)
  any_goals decide
  case x6 =>
    intro hh h1 a' w' hs hI2
    show Q (.exit 2) a' w'
    refine Hs _ a' w' ?_ (S6.trans hs) hI2
    rw [← hB, dec_hit hh]
    rotate_left
    · simp only [beq_iff_eq] at h1; simp; omega
    rw [wrap_sub' hr0 hr1 (by decide) (by decide)]
  intro hm a7 hs
  have S7 := S6.trans hs
  have hC7 := hC.same S7 (by decide)
  rw [dec_miss ?mi6] at hB
  rotate_left
  · rcases hm with hm | hm
    · exact .inl hm
    · simp only [beq_eq_false_iff_ne] at hm; right; simp; omega
  clear hm hs
  show Code.wp _ _ _ _ _
  refine wp_seq (d1 (p5 := "") (p6 := "") (lo := 288) (hi := 547) E hL hC7 hI hr0 hr1 ?_ ?_ ?_ ?_ ?_ ?n7 ?x7)
  any_goals decide
  case x7 =>
    intro hh h1 a' w' hs hI2
    show Q (.exit 2) a' w'
    refine Hs _ a' w' ?_ (S7.trans hs) hI2
    rw [← hB, dec_hit hh]
    rotate_left
    · simp only [beq_iff_eq] at h1; simp; omega
    rw [wrap_sub' hr0 hr1 (by decide) (by decide)]
  intro hm a8 hs
  have S8 := S7.trans hs
  have hC8 := hC.same S8 (by decide)
  rw [dec_miss ?mi7] at hB
  rotate_left
  · rcases hm with hm | hm
    · exact .inl hm
    · simp only [beq_eq_false_iff_ne] at hm; right; simp; omega
  clear hm hs
  show Code.wp _ _ _ _ _
  refine wp_seq (d1 (p5 := "") (p6 := "") (lo := 288) (hi := 547) E hL hC8 hI hr0 hr1 ?_ ?_ ?_ ?_ ?_ ?n8 ?x8)
  any_goals decide
  case x8 =>
    intro hh h1 a' w' hs hI2
    show Q (.exit 2) a' w'
    refine Hs _ a' w' ?_ (S8.trans hs) hI2
    rw [← hB, dec_hit hh]
    rotate_left
    · simp only [beq_iff_eq] at h1; simp; omega
    rw [wrap_sub' hr0 hr1 (by decide) (by decide)]
  intro hm a9 hs
  have S9 := S8.trans hs
  have hC9 := hC.same S9 (by decide)
  rw [dec_miss ?mi8] at hB
  rotate_left
  · rcases hm with hm | hm
    · exact .inl hm
    · simp only [beq_eq_false_iff_ne] at hm; right; simp; omega
  clear hm hs
  show Code.wp _ _ _ _ _
  refine wp_seq (d1 (p5 := "") (p6 := "") (lo := 288) (hi := 547) E hL hC9 hI hr0 hr1 ?_ ?_ ?_ ?_ ?_ ?n9 ?x9)
  any_goals decide
  case x9 =>
    intro hh h1 a' w' hs hI2
    show Q (.exit 2) a' w'
    refine Hs _ a' w' ?_ (S9.trans hs) hI2
    rw [← hB, dec_hit hh]
    rotate_left
    · simp only [beq_iff_eq] at h1; simp; omega
    rw [wrap_sub' hr0 hr1 (by decide) (by decide)]
  intro hm a10 hs
  have S10 := S9.trans hs
  have hC10 := hC.same S10 (by decide)
  rw [dec_miss ?mi9] at hB
  rotate_left
  · rcases hm with hm | hm
    · exact .inl hm
    · simp only [beq_eq_false_iff_ne] at hm; right; simp; omega
  clear hm hs
  show Code.wp _ _ _ _ _
  refine wp_seq (d1 (p5 := "") (p6 := "") (lo := 288) (hi := 547) E hL hC10 hI hr0 hr1 ?_ ?_ ?_ ?_ ?_ ?n10 ?x10)
  any_goals decide
  case x10 =>
    intro hh h1 a' w' hs hI2
    show Q (.exit 2) a' w'
    refine Hs _ a' w' ?_ (S10.trans hs) hI2
    rw [← hB, dec_hit hh]
    rotate_left
    · simp only [beq_iff_eq] at h1; simp; omega
    rw [wrap_sub' hr0 hr1 (by decide) (by decide)]
  intro hm a11 hs
  have S11 := S10.trans hs
  have hC11 := hC.same S11 (by decide)
  rw [dec_miss ?mi10] at hB
  rotate_left
  · rcases hm with hm | hm
    · exact .inl hm
    · simp only [beq_eq_false_iff_ne] at hm; right; simp; omega
  clear hm hs
  show Code.wp _ _ _ _ _
  refine wp_seq (d1 (p5 := "") (p6 := "") (lo := 288) (hi := 547) E hL hC11 hI hr0 hr1 ?_ ?_ ?_ ?_ ?_ ?n11 ?x11)
  any_goals decide
  case x11 =>
    intro hh h1 a' w' hs hI2
    show Q (.exit 2) a' w'
    refine Hs _ a' w' ?_ (S11.trans hs) hI2
    rw [← hB, dec_hit hh]
    rotate_left
    · simp only [beq_iff_eq] at h1; simp; omega
    rw [wrap_sub' hr0 hr1 (by decide) (by decide)]
  intro hm a12 hs
  have S12 := S11.trans hs
  have hC12 := hC.same S12 (by decide)
  rw [dec_miss ?mi11] at hB
  rotate_left
  · rcases hm with hm | hm
    · exact .inl hm
    · simp only [beq_eq_false_iff_ne] at hm; right; simp; omega
  clear hm hs
  show Code.wp _ _ _ _ _
  refine wp_seq (d1 (p5 := "") (p6 := "") (lo := 288) (hi := 547) E hL hC12 hI hr0 hr1 ?_ ?_ ?_ ?_ ?_ ?n12 ?x12)
  any_goals decide
  case x12 =>
    intro hh h1 a' w' hs hI2
    show Q (.exit 2) a' w'
    refine Hs _ a' w' ?_ (S12.trans hs) hI2
    rw [← hB, dec_hit hh]
    rotate_left
    · simp only [beq_iff_eq] at h1; simp; omega
    rw [wrap_sub' hr0 hr1 (by decide) (by decide)]
  intro hm a13 hs
  have S13 := S12.trans hs
  have hC13 := hC.same S13 (by decide)
  rw [dec_miss ?mi12] at hB
  rotate_left
  · rcases hm with hm | hm
    · exact .inl hm
    · simp only [beq_eq_false_iff_ne] at hm; right; simp; omega
  clear hm hs
  show Code.wp _ _ _ _ _
  refine wp_seq (d1 (p5 := "") (p6 := "") (lo := 288) (hi := 547) E hL hC13 hI hr0 hr1 ?_ ?_ ?_ ?_ ?_ ?n13 ?x13)
  any_goals decide
  case x13 =>
    intro hh h1 a' w' hs hI2
    show Q (.exit 2) a' w'
    refine Hs _ a' w' ?_ (S13.trans hs) hI2
    rw [← hB, dec_hit hh]
    rotate_left
    · simp only [beq_iff_eq] at h1; simp; omega
    rw [wrap_sub' hr0 hr1 (by decide) (by decide)]
  intro hm a14 hs
  have S14 := S13.trans hs
  have hC14 := hC.same S14 (by decide)
  rw [dec_miss ?mi13] at hB
  rotate_left
  · rcases hm with hm | hm
    · exact .inl hm
    · simp only [beq_eq_false_iff_ne] at hm; right; simp; omega
  clear hm hs
  show Code.wp _ _ _ _ _
  refine wp_seq (d2 (lo := 288) (hi := 547) E hL hC14 hI hr0 hr1 ?_ ?_ ?_ ?_ ?_ ?n14 ?x14)
  any_goals decide
  case x14 =>
    intro hh h1 a' w' hs hI2
    show Q (.exit 2) a' w'
    refine Hs _ a' w' ?_ (S14.trans hs) hI2
    rw [← hB, dec_hit hh]
    rotate_left
    · simp only [Bool.or_eq_true, beq_iff_eq] at h1; simp; omega
    rw [wrap_sub' hr0 hr1 (by decide) (by decide)]
  intro hm a15 hs
  have S15 := S14.trans hs
  have hC15 := hC.same S15 (by decide)
  rw [dec_miss ?mi14] at hB
  rotate_left
  · rcases hm with hm | hm
    · exact .inl hm
    · simp only [Bool.or_eq_false_iff, beq_eq_false_iff_ne] at hm; right; simp; omega
  clear hm hs
  show Code.wp _ _ _ _ _
  refine wp_seq (d1 (p5 := "") (p6 := "") (lo := 288) (hi := 547) E hL hC15 hI hr0 hr1 ?_ ?_ ?_ ?_ ?_ ?n15 ?x15)
  any_goals decide
  case x15 =>
    intro hh h1 a' w' hs hI2
    show Q (.exit 2) a' w'
    refine Hs _ a' w' ?_ (S15.trans hs) hI2
    rw [← hB, dec_hit hh]
    rotate_left
    · simp only [beq_iff_eq] at h1; simp; omega
    rw [wrap_sub' hr0 hr1 (by decide) (by decide)]
  intro hm a16 hs
  have S16 := S15.trans hs
  have hC16 := hC.same S16 (by decide)
  rw [dec_miss ?mi15] at hB
  rotate_left
  · rcases hm with hm | hm
    · exact .inl hm
    · simp only [beq_eq_false_iff_ne] at hm; right; simp; omega
  clear hm hs
  show Code.wp _ _ _ _ _
  refine wp_seq (d1 (p5 := "") (p6 := "") (lo := 288) (hi := 547) E hL hC16 hI hr0 hr1 ?_ ?_ ?_ ?_ ?_ ?n16 ?x16)
  any_goals decide
  case x16 =>
    intro hh h1 a' w' hs hI2
    show Q (.exit 2) a' w'
    refine Hs _ a' w' ?_ (S16.trans hs) hI2
    rw [← hB, dec_hit hh]
    rotate_left
    · simp only [beq_iff_eq] at h1; simp; omega
    rw [wrap_sub' hr0 hr1 (by decide) (by decide)]
  intro hm a17 hs
  have S17 := S16.trans hs
  have hC17 := hC.same S17 (by decide)
  rw [dec_miss ?mi16] at hB
  rotate_left
  · rcases hm with hm | hm
    · exact .inl hm
    · simp only [beq_eq_false_iff_ne] at hm; right; simp; omega
  clear hm hs
  show Code.wp _ _ _ _ _
  refine wp_seq (d3 (c := 127) (p5 := "") (p6 := "") (q4 := "") (q5 := "") (lo := 288) (hi := 547) E hL hC17 hI hr0 hr1 ?_ ?_ ?_ ?_ ?_ ?_ ?n17 ?x17)
  any_goals decide
  case x17 =>
    intro hh h1 a' w' hs hI2
    show Q (.exit 2) a' w'
    refine Hs _ a' w' ?_ (S17.trans hs) hI2
    rw [← hB, dec_hit hh]
    rotate_left
    · simp only [beq_iff_eq] at h1; simp; omega
    rw [show r - 9122 = (127 : Int) by simp only [beq_iff_eq] at h1; omega]
  intro hm a18 hs
  have S18 := S17.trans hs
  have hC18 := hC.same S18 (by decide)
  rw [dec_miss ?mi17] at hB
  rotate_left
  · rcases hm with hm | hm
    · exact .inl hm
    · simp only [beq_eq_false_iff_ne] at hm; right; simp; omega
  clear hm hs
  show Code.wp _ _ _ _ _
  refine wp_seq (d4 (lo := 288) (hi := 547) E hL hC18 hI hr0 hr1 ?_ ?_ ?_ ?_ ?n18 ?x18)
  any_goals decide
  case x18 =>
    intro hh h1 a' w' hs hI2
    show Q (.exit 2) a' w'
    refine Hs _ a' w' ?_ (S18.trans hs) hI2
    rw [← hB, dec_hit hh]
    rotate_left
    · exact (mem_signs _).2 h1
    rw [wrap_sub' hr0 hr1 (by decide) (by decide)]
  intro hm a19 hs
  have S19 := S18.trans hs
  have hC19 := hC.same S19 (by decide)
  rw [dec_miss ?mi18] at hB
  rotate_left
  · rcases hm with hm | hm
    · exact .inl hm
    · right; rw [mem_signs, hm]; decide
  clear hm hs
  show Code.wp _ _ _ _ _
  exact Hn (by rw [← hB]; rfl) _ S19
end Go.Proofs.YtlgoghonnnobfaaDoor.Dec
namespace Go.Proofs.YtlgoghonnnobfaaDoor.Dec
open Go Go.RowKit Go.Proofs.YtlgoghonnnobfaaDoor.Fr Go.Proofs.YtlgoghonnnobfaaDoor.Enc
set_option linter.unusedVariables false
set_option linter.unusedSimpArgs false
/-- The first switch of a round: the sign of zero, the quote, or on to the chain. -/
theorem dfirst {Q : Exit → Act → World → Prop} {a : Act} {w : World} {m r : Int} {uq : Bool} {pm pb : Addr} {I : List UInt8 → World → Prop} {acc : List UInt8} {lim : Nat} (E : Env lim m pm pb I) (hL : acc.length ≤ lim) (hC : Ctx 553 pm pb r uq a) (hI : I acc w) (hr0 : 0 ≤ r) (hr1 : r ≤ 1114111)
    (H1 : r = 9216 → ∀ a' w', Same 288 547 a a' → I (acc ++ Lib.encodeRune (if uq = true then r else 0)) w' → Q (.exit 2) a' w')
    (H2 : r = 8219 → uq = true → ∀ a' w', Same 288 547 a a' → I (acc ++ Lib.encodeRune r) w' → Q (.exit 2) a' w')
    (H3 : r = 8219 → uq = false → ∀ a', Same 288 547 a a' → Q (.exit 2) (a'.put (some 22) (.bool true)) w)
    (Hn : r ≠ 9216 → r ≠ 8219 → ∀ a', Same 288 547 a a' → (piece [1, 1, 1, 1, 1, 1, 1, 1, 1, 1, 1, 1, 1, 1, 1, 1, 0, 1, 0, 0, 1, 1, 0, 1, 1, 1, 1] (Tryd.f30.body.getD .skip)).wp Tryd.prog Q a' w) :
    (piece [1, 1, 1, 1, 1, 1, 1, 1, 1, 1, 1, 1, 1, 1, 1, 1, 0, 1, 0, 0, 1, 1, 0, 1, 1, 1] (Tryd.f30.body.getD .skip)).wp Tryd.prog Q a w := by
  conv => arg 2; whnf
  refine wp_seq ?_
  refine wp_seq (r_move ?_)
  show Code.wp _ _ _ _ _
  rw [hC.rune]
  have s1 := (Same.refl a : Same 288 547 a a).put 294 (.int .i32 r) (by decide) (by decide)
  have e1 := eval_same a 294 (.int .i32 r) (by rw [hC.size]; decide)
  generalize a.put (some 294) (.int .i32 r) = a1 at s1 e1
  refine wp_block ?_
  refine wp_seq (r_eq (by rw [s1.size, hC.size]; decide) e1 ?_)
  show Code.wp _ _ _ _ _
  have s2 := (s1.put 296 (.bool (r == 9216)) (by decide) (by decide)).put 295 (.bool (r == 9216)) (by decide) (by decide)
  have t2 := eval_same (a1.put (some 296) (.bool (r == 9216))) 295 (.bool (r == 9216)) (by rw [size_put, s1.size, hC.size]; decide)
  have u2 : ((a1.put (some 296) (.bool (r == 9216))).put (some 295) (.bool (r == 9216))).eval (.tmp 294) = .int .i32 r := by
    rw [eval_other _ _ _ _ (by decide), eval_other _ _ _ _ (by decide), e1]
  generalize (a1.put (some 296) (.bool (r == 9216))).put (some 295) (.bool (r == 9216)) = a2 at s2 t2 u2
  have hC2 := hC.same s2 (by decide)
  refine wp_cond t2 ?_
  cases h1 : (r == 9216) with
  | true =>
    rw [if_pos rfl]
    refine actc (lo := 288) (hi := 547) E hL hC2 hI (by decide) (by decide) (by decide) (by decide) hr0 hr1 (by decide) (by decide) fun a' w' s3 hI' => ?_
    exact H1 (by simpa using h1) _ _ (s2.trans s3) hI'
  | false =>
    rw [if_neg (by simp)]
    refine wp_seq (r_eq (by rw [s2.size, hC.size]; decide) u2 ?_)
    show Code.wp _ _ _ _ _
    have s3 := (s2.put 302 (.bool (r == 8219)) (by decide) (by decide)).put 301 (.bool (r == 8219)) (by decide) (by decide)
    have t3 := eval_same (a2.put (some 302) (.bool (r == 8219))) 301 (.bool (r == 8219)) (by rw [size_put, s2.size, hC.size]; decide)
    generalize (a2.put (some 302) (.bool (r == 8219))).put (some 301) (.bool (r == 8219)) = a3 at s3 t3
    have hC3 := hC.same s3 (by decide)
    refine wp_cond t3 ?_
    cases h2 : (r == 8219) with
    | false =>
      rw [if_neg (by simp)]
      refine wp_skip ?_
      exact Hn (by simpa using h1) (by simpa using h2) _ s3
    | true =>
      rw [if_pos rfl]
      refine wp_seq ?_
      refine wp_seq (r_move ?_)
      show Code.wp _ _ _ _ _
      rw [hC3.uq]
      have s4 := s3.put 303 (.bool uq) (by decide) (by decide)
      have e4 := eval_same a3 303 (.bool uq) (by rw [hC3.size]; decide)
      generalize a3.put (some 303) (.bool uq) = a4 at s4 e4
      have hC4 := hC.same s4 (by decide)
      refine wp_cond e4 ?_
      cases uq with
      | true =>
        rw [if_pos rfl]
        refine r_wmove E hL hC4 hI (by decide) (by decide) (by omega) (by omega) fun v w' hI' => ?_
        show Code.wp _ _ _ _ _
        refine wp_exit ?_
        exact H2 (by simpa using h2) rfl _ _ ((s4.put _ _ (by decide) (by decide)).put _ _ (by decide) (by decide)) hI'
      | false =>
        rw [if_neg (by decide)]
        refine wp_region_lit ?_
        refine Fr.assign ?_
        show Code.wp _ _ _ _ _
        refine wp_exit ?_
        exact H3 (by simpa using h2) rfl _ s4
end Go.Proofs.YtlgoghonnnobfaaDoor.Dec
namespace Go.Proofs.YtlgoghonnnobfaaDoor.Dec
open Go Go.RowKit Go.Proofs.YtlgoghonnnobfaaDoor.Fr Go.Proofs.YtlgoghonnnobfaaDoor.Enc
set_option linter.unusedVariables false
set_option linter.unusedSimpArgs false
/-- What a round of the decoder leaves as it was. -/
structure DB (s suf : ByteArray) (pm pb pit : Addr) (a : Act) : Prop where
  size : a.tmps.size = 553
  inn : a.eval (.tmp 1) = .string s
  mask : a.eval (.tmp 2) = .pointer (some pm)
  suf : a.eval (.tmp 10) = .string suf
  buf : a.eval (.tmp 20) = .pointer (some pb)
  iter : a.eval (.tmp 287) = .pointer (some pit)
  defers : a.defers = []
theorem DB.put {s suf : ByteArray} {pm pb pit : Addr} {a : Act} (h : DB s suf pm pb pit a) (d : Nat) (v : Value) (hd : d ≠ 1 ∧ d ≠ 2 ∧ d ≠ 10 ∧ d ≠ 20 ∧ d ≠ 287) : DB s suf pm pb pit (a.put (some d) v) :=
  ⟨(size_put _ _ _).trans h.size, (eval_other _ _ _ _ (Ne.symm hd.1)).trans h.inn, (eval_other _ _ _ _ (Ne.symm hd.2.1)).trans h.mask, (eval_other _ _ _ _ (Ne.symm hd.2.2.1)).trans h.suf, (eval_other _ _ _ _ (Ne.symm hd.2.2.2.1)).trans h.buf, (eval_other _ _ _ _ (Ne.symm hd.2.2.2.2)).trans h.iter, (defers_put _ _ _).trans h.defers⟩
theorem DB.same {s suf : ByteArray} {pm pb pit : Addr} {a a' : Act} (h : DB s suf pm pb pit a) (hs : Same 288 547 a a') : DB s suf pm pb pit a' :=
  ⟨hs.size.trans h.size, (hs.slot 1 (by decide)).trans h.inn, (hs.slot 2 (by decide)).trans h.mask, (hs.slot 10 (by decide)).trans h.suf, (hs.slot 20 (by decide)).trans h.buf, (hs.slot 287 (by decide)).trans h.iter, hs.defers.trans h.defers⟩
/-- The head of a round: position and sign, the one to be passed over, and the mark of the quote. -/
theorem dhead {Q : Exit → Act → World → Prop} {s suf : ByteArray} {pm pb pit : Addr} {a : Act} {w : World} {p r : Int} {un sk : Bool} (hA : DB s suf pm pb pit a)
    (h22 : a.eval (.tmp 22) = .bool un) (h23 : a.eval (.tmp 23) = .bool sk)
    (h288 : a.eval (.tmp 288) = .tuple #[.bool true, .int .i64 p, .int .i32 r])
    (H1 : sk = true → ∀ a', DB s suf pm pb pit a' → a'.eval (.tmp 22) = .bool un → a'.eval (.tmp 23) = .bool false → Q (.exit 2) a' w)
    (H2 : sk = false → ∀ a', DB s suf pm pb pit a' → a'.eval (.tmp 21) = .bool un → a'.eval (.tmp 22) = .bool false → a'.eval (.tmp 23) = .bool false → a'.eval (.tmp 24) = .int .i64 p → a'.eval (.tmp 25) = .int .i32 r → (piece [1, 1, 1, 1, 1, 1, 1, 1, 1, 1, 1, 1, 1, 1, 1, 1, 0, 1, 0, 0, 1, 1, 0, 1, 1, 1] (Tryd.f30.body.getD .skip)).wp Tryd.prog Q a' w) :
    (piece [1, 1, 1, 1, 1, 1, 1, 1, 1, 1, 1, 1, 1, 1, 1, 1, 0, 1, 0, 0, 1, 1, 0] (Tryd.f30.body.getD .skip)).wp Tryd.prog Q a w := by
  have hz := hA.size
  conv => arg 2; whnf
  refine wp_seq ?_
  refine wp_region_lit ?_
  refine Fr.step rfl (run_extract (v := .int .i64 p) h288 (by rfl)) ?_
  refine Fr.step rfl (run_extract (vs := #[.bool true, .int .i64 p, .int .i32 r]) (v := .int .i32 r) (by rw [← h288]; exact eval_other _ _ _ _ (by decide)) (by rfl)) ?_
  refine assign ?_
  refine assign ?_
  refine wpList_nil ?_
  show Code.wp _ _ _ _ _
  rw [show ((a.put (some 290) (.int .i64 p)).put (some 291) (.int .i32 r)).eval (.tmp 290) = .int .i64 p from by simp [eval_other, eval_same, size_put, hz, eval_const]]
  rw [show (((a.put (some 290) (.int .i64 p)).put (some 291) (.int .i32 r)).put (some 24) (.int .i64 p)).eval (.tmp 291) = .int .i32 r from by simp [eval_other, eval_same, size_put, hz, eval_const]]
  have hA1 := (((hA.put 290 (.int .i64 p) (by decide)).put 291 (.int .i32 r) (by decide)).put 24 (.int .i64 p) (by decide)).put 25 (.int .i32 r) (by decide)
  have e24 : ((((a.put (some 290) (.int .i64 p)).put (some 291) (.int .i32 r)).put (some 24) (.int .i64 p)).put (some 25) (.int .i32 r)).eval (.tmp 24) = .int .i64 p := by simp [eval_other, eval_same, size_put, hz, eval_const]
  have e25 : ((((a.put (some 290) (.int .i64 p)).put (some 291) (.int .i32 r)).put (some 24) (.int .i64 p)).put (some 25) (.int .i32 r)).eval (.tmp 25) = .int .i32 r := by simp [eval_other, eval_same, size_put, hz, eval_const]
  have e22 : ((((a.put (some 290) (.int .i64 p)).put (some 291) (.int .i32 r)).put (some 24) (.int .i64 p)).put (some 25) (.int .i32 r)).eval (.tmp 22) = .bool un := by simp [eval_other, eval_same, size_put, hz, eval_const, h22]
  have e23 : ((((a.put (some 290) (.int .i64 p)).put (some 291) (.int .i32 r)).put (some 24) (.int .i64 p)).put (some 25) (.int .i32 r)).eval (.tmp 23) = .bool sk := by simp [eval_other, eval_same, size_put, hz, eval_const, h23]
  generalize ((((a.put (some 290) (.int .i64 p)).put (some 291) (.int .i32 r)).put (some 24) (.int .i64 p)).put (some 25) (.int .i32 r)) = a1 at hA1 e24 e25 e22 e23 ⊢
  clear hz h288 hA h22 h23 a
  have hz1 := hA1.size
  refine wp_seq ?_
  refine wp_seq (r_move ?_)
  show Code.wp _ _ _ _ _
  rw [e23]
  have hA2 := hA1.put 292 (.bool sk) (by decide)
  have t := eval_same a1 292 (.bool sk) (by rw [hz1]; decide)
  have f22 : (a1.put (some 292) (.bool sk)).eval (.tmp 22) = .bool un := (eval_other _ _ _ _ (by decide)).trans e22
  have f23 : (a1.put (some 292) (.bool sk)).eval (.tmp 23) = .bool sk := (eval_other _ _ _ _ (by decide)).trans e23
  have f24 : (a1.put (some 292) (.bool sk)).eval (.tmp 24) = .int .i64 p := (eval_other _ _ _ _ (by decide)).trans e24
  have f25 : (a1.put (some 292) (.bool sk)).eval (.tmp 25) = .int .i32 r := (eval_other _ _ _ _ (by decide)).trans e25
  generalize a1.put (some 292) (.bool sk) = a2 at hA2 t f22 f23 f24 f25
  clear e22 e23 e24 e25 hA1 hz1 a1
  have hz := hA2.size
  refine wp_cond t ?_
  cases sk with
  | true =>
    rw [if_pos rfl]
    refine wp_seq ?_
    refine wp_region_lit ?_
    refine assign ?_
    refine wpList_nil ?_
    show Code.wp _ _ _ _ _
    refine wp_exit ?_
    exact H1 rfl _ (hA2.put 23 _ (by decide)) ((eval_other _ _ _ _ (by decide)).trans f22) (eval_same _ _ _ (by rw [hz]; decide))
  | false =>
    rw [if_neg (by decide)]
    refine wp_skip ?_
    show Code.wp _ _ _ _ _
    refine wp_seq ?_
    refine wp_region_lit ?_
    refine Fr.move ?_
    rw [f22]
    refine assign ?_
    refine assign ?_
    refine wpList_nil ?_
    rw [eval_same _ _ _ (show 293 < a2.tmps.size by rw [hz]; decide)]
    show Code.wp _ _ _ _ _
    refine H2 rfl _ (((hA2.put 293 _ (by decide)).put 21 _ (by decide)).put 22 _ (by decide)) ?_ ?_ ?_ ?_ ?_
    all_goals simp [eval_other, eval_same, size_put, hz, eval_const, f23, f24, f25]
end Go.Proofs.YtlgoghonnnobfaaDoor.Dec
namespace Go.Proofs.YtlgoghonnnobfaaDoor.Dec
open Go Go.RowKit Go.Proofs.YtlgoghonnnobfaaDoor.Fr Go.Proofs.YtlgoghonnnobfaaDoor.Enc
set_option linter.unusedVariables false
set_option linter.unusedSimpArgs false
/-- No quote ahead: on to the sign itself. -/
theorem dunq {Q : Exit → Act → World → Prop} {a : Act} {w : World} {m r : Int} {uq : Bool} {pm pb : Addr} {I : List UInt8 → World → Prop} {acc : List UInt8} {lim : Nat} (hC : Ctx 553 pm pb r false a)
    (Hn : ∀ a', Same 288 547 a a' → (piece [1, 1, 1, 1, 1, 1, 1, 1, 1, 1, 1, 1, 1, 1, 1, 1, 0, 1, 0, 0, 1, 1, 0, 1, 1, 1, 1, 1, 1, 1, 1, 1, 1, 1, 1, 1, 1, 1, 1, 1, 1, 1, 1, 1, 1, 1, 1] (Tryd.f30.body.getD .skip)).wp Tryd.prog Q a' w) :
    (piece [1, 1, 1, 1, 1, 1, 1, 1, 1, 1, 1, 1, 1, 1, 1, 1, 0, 1, 0, 0, 1, 1, 0, 1, 1, 1, 1, 1, 1, 1, 1, 1, 1, 1, 1, 1, 1, 1, 1, 1, 1, 1, 1, 1, 1, 1] (Tryd.f30.body.getD .skip)).wp Tryd.prog Q a w := by
  conv => arg 2; whnf
  refine wp_seq ?_
  refine wp_seq (r_move ?_)
  show Code.wp _ _ _ _ _
  rw [hC.uq]
  refine wp_cond (eval_same _ _ _ (by rw [hC.size]; decide)) ?_
  rw [if_neg (by decide)]
  refine wp_skip ?_
  exact Hn _ ((Same.refl a).put 519 _ (by decide) (by decide))
/-- The sign stays as it is. -/
theorem dstay {Q : Exit → Act → World → Prop} {a : Act} {w : World} {m r : Int} {uq : Bool} {pm pb : Addr} {I : List UInt8 → World → Prop} {acc : List UInt8} {lim : Nat} (E : Env lim m pm pb I) (hL : acc.length ≤ lim) (hC : Ctx 553 pm pb r uq a) (hI : I acc w) (hr0 : 0 ≤ r) (hr1 : r ≤ 1114111) (hne : r ≠ 65533)
    (Hx : ∀ a' w', Same 288 547 a a' → I (acc ++ Lib.encodeRune r) w' → Q .normal a' w') :
    (piece [1, 1, 1, 1, 1, 1, 1, 1, 1, 1, 1, 1, 1, 1, 1, 1, 0, 1, 0, 0, 1, 1, 0, 1, 1, 1, 1, 1, 1, 1, 1, 1, 1, 1, 1, 1, 1, 1, 1, 1, 1, 1, 1, 1, 1, 1, 1] (Tryd.f30.body.getD .skip)).wp Tryd.prog Q a w := by
  conv => arg 2; whnf
  refine wp_seq ?_
  refine wp_seq (r_move ?_)
  show Code.wp _ _ _ _ _
  rw [hC.rune]
  have s1 := (Same.refl a : Same 288 547 a a).put 529 (.int .i32 r) (by decide) (by decide)
  have e1 := eval_same a 529 (.int .i32 r) (by rw [hC.size]; decide)
  generalize a.put (some 529) (.int .i32 r) = a1 at s1 e1
  refine wp_block ?_
  refine wp_seq (r_eq (by rw [s1.size, hC.size]; decide) e1 ?_)
  show Code.wp _ _ _ _ _
  have s2 := (s1.put 531 (.bool (r == 65533)) (by decide) (by decide)).put 530 (.bool (r == 65533)) (by decide) (by decide)
  have t2 := eval_same (a1.put (some 531) (.bool (r == 65533))) 530 (.bool (r == 65533)) (by rw [size_put, s1.size, hC.size]; decide)
  generalize (a1.put (some 531) (.bool (r == 65533))).put (some 530) (.bool (r == 65533)) = a2 at s2 t2
  have hC2 := hC.same s2 (by decide)
  refine wp_cond t2 ?_
  rw [if_neg (by simpa using hne)]
  refine wp_skip ?_
  show Code.wp _ _ _ _ _
  refine r_wmove E hL hC2 hI (by decide) (by decide) (by omega) (by omega) fun v w' hI' => ?_
  exact Hx _ _ ((s2.put _ _ (by decide) (by decide)).put _ _ (by decide) (by decide)) hI'
end Go.Proofs.YtlgoghonnnobfaaDoor.Dec
namespace Go.Proofs.YtlgoghonnnobfaaDoor.Dec
open Go Go.RowKit Go.Proofs.YtlgoghonnnobfaaDoor.Fr Go.Proofs.YtlgoghonnnobfaaDoor.Enc
set_option linter.unusedVariables false
set_option linter.unusedSimpArgs false
/-- What a round of the decoder leaves as it was, and its two marks. -/
structure DS (un sk : Bool) (s suf : ByteArray) (pm pb pit : Addr) (a : Act) : Prop where
  size : a.tmps.size = 553
  inn : a.eval (.tmp 1) = .string s
  mask : a.eval (.tmp 2) = .pointer (some pm)
  suf : a.eval (.tmp 10) = .string suf
  buf : a.eval (.tmp 20) = .pointer (some pb)
  iter : a.eval (.tmp 287) = .pointer (some pit)
  un : a.eval (.tmp 22) = .bool un
  sk : a.eval (.tmp 23) = .bool sk
  defers : a.defers = []
theorem DS.put {un sk : Bool} {s suf : ByteArray} {pm pb pit : Addr} {a : Act} (h : DS un sk s suf pm pb pit a) (d : Nat) (v : Value) (hd : 1 ≠ d ∧ 2 ≠ d ∧ 10 ≠ d ∧ 20 ≠ d ∧ 287 ≠ d ∧ 22 ≠ d ∧ 23 ≠ d) : DS un sk s suf pm pb pit (a.put (some d) v) :=
  ⟨(size_put _ _ _).trans h.size, (eval_other _ _ _ _ hd.1).trans h.inn, (eval_other _ _ _ _ hd.2.1).trans h.mask, (eval_other _ _ _ _ hd.2.2.1).trans h.suf, (eval_other _ _ _ _ hd.2.2.2.1).trans h.buf, (eval_other _ _ _ _ hd.2.2.2.2.1).trans h.iter, (eval_other _ _ _ _ hd.2.2.2.2.2.1).trans h.un, (eval_other _ _ _ _ hd.2.2.2.2.2.2).trans h.sk, (defers_put _ _ _).trans h.defers⟩
theorem DS.same {un sk : Bool} {s suf : ByteArray} {pm pb pit : Addr} {a a' : Act} (h : DS un sk s suf pm pb pit a) (hs : Same 288 547 a a') : DS un sk s suf pm pb pit a' :=
  ⟨hs.size.trans h.size, (hs.slot 1 (by decide)).trans h.inn, (hs.slot 2 (by decide)).trans h.mask, (hs.slot 10 (by decide)).trans h.suf, (hs.slot 20 (by decide)).trans h.buf, (hs.slot 287 (by decide)).trans h.iter, (hs.slot 22 (by decide)).trans h.un, (hs.slot 23 (by decide)).trans h.sk, hs.defers.trans h.defers⟩
theorem DB.ds {un sk : Bool} {s suf : ByteArray} {pm pb pit : Addr} {a : Act} (h : DB s suf pm pb pit a) (h1 : a.eval (.tmp 22) = .bool un) (h2 : a.eval (.tmp 23) = .bool sk) : DS un sk s suf pm pb pit a :=
  ⟨h.size, h.inn, h.mask, h.suf, h.buf, h.iter, h1, h2, h.defers⟩
theorem r_dec {Q : Exit → Act → World → Prop} {un sk : Bool} {s suf : ByteArray} {pm pb pit : Addr} {a : Act} {w : World} {m : Int} {I : List UInt8 → World → Prop} {acc : List UInt8} {lim pos id y z : Nat} {p0 p1 p2 p3 p4 p5 p6 p7 p8 : String} {f0 f1 f2 f3 f4 f5 f6 f7 f8 : Array Edge} (E : Env2 lim m pm pb I) (hA : DS un sk s suf pm pb pit a)
    (h25 : a.eval (.tmp 24) = .int .i64 (pos : Int)) (hI : I acc w) (hp : pos < s.size) (hy : 288 < y) (hy2 : y + 6 < 553) (hz' : z = 26)
    (H : ∀ a' w', DS un sk s suf pm pb pit a' → a'.eval (.tmp 24) = .int .i64 (pos : Int) → a'.eval (.tmp (z + 1)) = .int .i64 ((Lib.decodeGo (s.extract pos s.size)).2 : Int) → I acc w' → Q .normal a' w') :
    (Code.region id #[{ dst := some (y + 1), op := .move (.tmp 1), type := 9, pos := p0, after := f0, guard := none }, { dst := some (y + 2), op := .move (.tmp 24), type := 3, pos := p1, after := f1, guard := none }, { dst := some (y + 3), op := .slice 9 (.tmp (y + 1)) (some (.tmp (y + 2))) none none, type := 9, pos := p2, after := f2, guard := none },
      { dst := some (y + 4), op := .call { callee := .value (.func 41), args := #[.tmp (y + 3)], argTypes := #[9] }, type := 49, pos := p3, after := f3, guard := none }, { dst := some y, op := .move (.tmp (y + 4)), type := 49, pos := p4, after := f4, guard := none }, { dst := some (y + 5), op := .extract (.tmp y) 0, type := 21, pos := p5, after := f5, guard := none },
      { dst := some (y + 6), op := .extract (.tmp y) 1, type := 3, pos := p6, after := f6, guard := none }, { dst := some z, op := .assign (.tmp (y + 5)), type := 21, pos := p7, after := f7, guard := none }, { dst := some (z + 1), op := .assign (.tmp (y + 6)), type := 3, pos := p8, after := f8, guard := none }] false).wp Tryd.prog Q a w := by
  have hz := hA.size
  refine wp_region_lit ?_
  refine Fr.move ?_
  rw [hA.inn]
  refine Fr.move ?_
  rw [eval_other _ _ _ _ (show 24 ≠ y + 1 by omega), h25]
  refine Fr.step rfl (run_from (i := pos) Tryd.underlying9 (s := s) (by rw [eval_other _ _ _ _ (by omega)]; exact eval_same _ _ _ (by omega)) (eval_same _ _ _ (by rw [size_put]; omega)) (by omega)) ?_
  refine call enters41 ?_
  have e : ∀ b : Act, b.tmps.size = 553 → (#[Operand.tmp (y + 3)]).map (b.put (some (y + 3)) (.string (s.extract pos s.size))).eval = #[.string (s.extract pos s.size)] := by
    intro b hb
    simp [eval_same _ _ _ (show y + 3 < b.tmps.size by omega)]
  rw [e _ (by rw [size_put, size_put]; exact hz)]
  refine (E.dec acc w _ hI).mono ?_
  rintro e w' ⟨rfl, hI'⟩
  refine ⟨_, rfl, ?_⟩
  have hB := ((hA.put (y + 1) (.string s) (by omega)).put (y + 2) (.int .i64 (pos : Int)) (by omega)).put (y + 3) (.string (s.extract pos s.size)) (by omega)
  have hB := hB.put (y + 4) (.tuple #[.int .i32 ((Lib.decodeGo (s.extract pos s.size)).1 : Int), .int .i64 ((Lib.decodeGo (s.extract pos s.size)).2 : Int)]) (by omega)
  have b25 : ((((a.put (some (y + 1)) (.string s)).put (some (y + 2)) (.int .i64 (pos : Int))).put (some (y + 3)) (.string (s.extract pos s.size))).put (some (y + 4)) (.tuple #[.int .i32 ((Lib.decodeGo (s.extract pos s.size)).1 : Int), .int .i64 ((Lib.decodeGo (s.extract pos s.size)).2 : Int)])).eval (.tmp 24) = .int .i64 (pos : Int) := by
    rw [eval_other _ _ _ _ (by omega), eval_other _ _ _ _ (by omega), eval_other _ _ _ _ (by omega), eval_other _ _ _ _ (by omega)]; exact h25
  have b4 := eval_same (((a.put (some (y + 1)) (.string s)).put (some (y + 2)) (.int .i64 (pos : Int))).put (some (y + 3)) (.string (s.extract pos s.size))) (y + 4) (.tuple #[.int .i32 ((Lib.decodeGo (s.extract pos s.size)).1 : Int), .int .i64 ((Lib.decodeGo (s.extract pos s.size)).2 : Int)]) (by rw [size_put, size_put, size_put]; omega)
  generalize (((a.put (some (y + 1)) (.string s)).put (some (y + 2)) (.int .i64 (pos : Int))).put (some (y + 3)) (.string (s.extract pos s.size))).put (some (y + 4)) (.tuple #[.int .i32 ((Lib.decodeGo (s.extract pos s.size)).1 : Int), .int .i64 ((Lib.decodeGo (s.extract pos s.size)).2 : Int)]) = b at hB b25 b4
  have hzb := hB.size
  refine Fr.move ?_
  rw [b4]
  refine Fr.step rfl (run_extract (v := .int .i32 ((Lib.decodeGo (s.extract pos s.size)).1 : Int)) (eval_same _ _ _ (by omega)) (by rfl)) ?_
  refine Fr.step rfl (run_extract (vs := #[.int .i32 ((Lib.decodeGo (s.extract pos s.size)).1 : Int), .int .i64 ((Lib.decodeGo (s.extract pos s.size)).2 : Int)]) (v := .int .i64 ((Lib.decodeGo (s.extract pos s.size)).2 : Int)) (by rw [eval_other _ _ _ _ (by omega)]; exact eval_same _ _ _ (by omega)) (by rfl)) ?_
  refine assign ?_
  refine assign ?_
  refine wpList_nil ?_
  refine H _ _ ((((( hB.put _ _ (by omega)).put _ _ (by omega)).put _ _ (by omega)).put _ _ (by omega)).put _ _ (by omega)) ?_ ?_ hI'
  · rw [eval_other _ _ _ _ (by omega), eval_other _ _ _ _ (by omega), eval_other _ _ _ _ (by omega), eval_other _ _ _ _ (by omega), eval_other _ _ _ _ (by omega)]; exact b25
  · rw [eval_same _ _ _ (by rw [size_put, size_put, size_put, size_put]; omega), eval_other _ _ _ _ (by omega), eval_same _ _ _ (by rw [size_put, size_put]; omega)]
set_option maxHeartbeats 1000000 in
theorem r_text {Q : Exit → Act → World → Prop} {un sk : Bool} {s suf : ByteArray} {pm pb pit : Addr} {a : Act} {w : World} {m : Int} {I : List UInt8 → World → Prop} {acc : List UInt8} {lim pos l id : Nat} {p0 p1 p2 p3 p4 p5 p6 : String} {f0 f1 f2 f3 f4 f5 f6 : Array Edge} (E : Env2 lim m pm pb I) (hA : DS un sk s suf pm pb pit a) (h25 : a.eval (.tmp 24) = .int .i64 (pos : Int)) (h30 : a.eval (.tmp 27) = .int .i64 (l : Int)) (hs : s.size ≤ 140737488355328) (hp : pos < s.size) (hl : pos + l ≤ s.size) (hL : acc.length + l ≤ lim + 4) (hI : I acc w)
    (H : ∀ a' w', DS un sk s suf pm pb pit a' → I (acc ++ (s.extract pos (pos + l)).toList) w' → Q .normal a' w') :
    (Code.region id #[{ dst := some 539, op := Op.move (Operand.tmp 1), type := 9, pos := p0, after := f0, guard := none }, { dst := some 540, op := Op.move (Operand.tmp 24), type := 3, pos := p1, after := f1, guard := none }, { dst := some 541, op := Op.move (Operand.tmp 24), type := 3, pos := p2, after := f2, guard := none }, { dst := some 542, op := Op.move (Operand.tmp 27), type := 3, pos := p3, after := f3, guard := none }, { dst := some 543, op := Op.binOp BinOp.add 3 (Operand.tmp 541) (Operand.tmp 542) 3, type := 3, pos := p4, after := f4, guard := none }, { dst := some 544, op := Op.slice 9 (Operand.tmp 539) (some (Operand.tmp 540)) (some (Operand.tmp 543)) none, type := 9, pos := p5, after := f5, guard := none }, { dst := some 545, op := Op.call { callee := Callee.value (Operand.func 46), args := #[Operand.tmp 20, Operand.tmp 544], argTypes := #[56, 9] }, type := 60, pos := p6, after := f6, guard := none }] false).wp Tryd.prog Q a w := by
  have hz := hA.size
  have hw : IntKind.i64.wrap ((pos : Int) + (l : Int)) = ((pos + l : Nat) : Int) := by rw [IntWalk.i64_in _ (by omega)]; simp
  refine wp_region_lit ?_
  refine Fr.move ?_
  refine Fr.move ?_
  refine Fr.move ?_
  refine Fr.move ?_
  refine Fr.step rfl (run_addi (m := (pos : Int)) (n := (l : Int)) Tryd.underlying3 (by simp [eval_other, eval_same, size_put, hz, eval_const, h25, h30, hA.inn, hA.buf]) (by simp [eval_other, eval_same, size_put, hz, eval_const, h25, h30, hA.inn, hA.buf])) ?_
  rw [hw]
  refine Fr.step rfl (run_sub (s := s) (i := pos) (j := pos + l) Tryd.underlying9 (by simp [eval_other, eval_same, size_put, hz, eval_const, h25, h30, hA.inn, hA.buf]) (by simp [eval_other, eval_same, size_put, hz, eval_const, h25, h30, hA.inn, hA.buf]) (eval_same _ _ _ (by simp [size_put, hz])) (by omega) (by omega)) ?_
  refine call enters46 ?_
  have e : ∀ b : Act, b.tmps.size = 553 → b.eval (.tmp 20) = .pointer (some pb) → (#[Operand.tmp 20, .tmp 544]).map (b.put (some 544) (.string (s.extract pos (pos + l)))).eval = #[.pointer (some pb), .string (s.extract pos (pos + l))] := by
    intro b hb h24
    simp [eval_same _ _ _ (show 544 < b.tmps.size by omega), eval_other _ 544 20 _ (by decide), h24]
  rw [e _ (by simp [size_put, hz]) (by simp [eval_other, eval_same, size_put, hz, hA.buf])]
  have hsz : (s.extract pos (pos + l)).size = l := by simp [ByteArray.size_extract]; omega
  refine (E.text acc w _ (by rw [hsz]; exact hL) hI).mono ?_
  rintro e w' ⟨v, rfl, hI'⟩
  rw [← Lib.toList_data] at hI'
  refine ⟨_, rfl, wpList_nil (H _ _ ?_ hI')⟩
  exact ((((((hA.put _ _ (by decide)).put _ _ (by decide)).put _ _ (by decide)).put _ _ (by decide)).put _ _ (by decide)).put _ _ (by decide)).put _ _ (by decide)
/-- Where U+FFFD is read, the bytes that stand there are written. -/
theorem derr {Q : Exit → Act → World → Prop} {un sk : Bool} {s suf : ByteArray} {pit : Addr} {a : Act} {w : World} {m r : Int} {uq : Bool} {pm pb : Addr} {I : List UInt8 → World → Prop} {acc : List UInt8} {lim pos l : Nat} (E : Env2 lim m pm pb I) (hL : acc.length + 8 ≤ lim) (hA : DS un sk s suf pm pb pit a) (hI : I acc w) (hr : r = 65533)
    (h24 : a.eval (.tmp 24) = .int .i64 (pos : Int)) (h25 : a.eval (.tmp 25) = .int .i32 r) (hs : s.size ≤ 140737488355328) (hp : pos < s.size) (hl : (Lib.decodeGo (s.extract pos s.size)).2 = l) (hfit : pos + l ≤ s.size) (hl4 : l ≤ 4)
    (Hx : ∀ a' w', DS un sk s suf pm pb pit a' → I (acc ++ (s.extract pos (pos + l)).toList) w' → Q (.exit 2) a' w') :
    (piece [1, 1, 1, 1, 1, 1, 1, 1, 1, 1, 1, 1, 1, 1, 1, 1, 0, 1, 0, 0, 1, 1, 0, 1, 1, 1, 1, 1, 1, 1, 1, 1, 1, 1, 1, 1, 1, 1, 1, 1, 1, 1, 1, 1, 1, 1, 1] (Tryd.f30.body.getD .skip)).wp Tryd.prog Q a w := by
  conv => arg 2; whnf
  refine wp_seq ?_
  refine wp_seq (r_move ?_)
  show Code.wp _ _ _ _ _
  rw [h25]
  have hA1 := hA.put 529 (.int .i32 r) (by decide)
  have e1 := eval_same a 529 (.int .i32 r) (by rw [hA.size]; decide)
  have g24 := (eval_other a 529 24 (.int .i32 r) (by decide)).trans h24
  generalize a.put (some 529) (.int .i32 r) = a1 at hA1 e1 g24
  refine wp_block ?_
  refine wp_seq (r_eq (by rw [hA1.size]; decide) e1 ?_)
  show Code.wp _ _ _ _ _
  have hA2 := (hA1.put 531 (.bool (r == 65533)) (by decide)).put 530 (.bool (r == 65533)) (by decide)
  have t2 := eval_same (a1.put (some 531) (.bool (r == 65533))) 530 (.bool (r == 65533)) (by rw [size_put, hA1.size]; decide)
  have k24 : ((a1.put (some 531) (.bool (r == 65533))).put (some 530) (.bool (r == 65533))).eval (.tmp 24) = .int .i64 (pos : Int) := by
    rw [eval_other _ _ _ _ (by decide), eval_other _ _ _ _ (by decide), g24]
  generalize (a1.put (some 531) (.bool (r == 65533))).put (some 530) (.bool (r == 65533)) = a2 at hA2 t2 k24
  refine wp_cond t2 ?_
  rw [if_pos (by simpa using hr)]
  refine wp_seq (r_dec E hA2 k24 hI hp (by decide) (by decide) (by decide) fun a8 w8 hA8 w24 w27 hI8 => ?_)
  show Code.wp _ _ _ _ _
  rw [hl] at w27
  refine wp_seq (r_text E hA8 w24 w27 hs hp hfit (by omega) hI8 (fun a9 w9 hA9 hI9 => ?_))
  show Code.wp _ _ _ _ _
  refine wp_exit ?_
  exact Hx _ _ hA9 hI9
end Go.Proofs.YtlgoghonnnobfaaDoor.Dec
namespace Go.Proofs.YtlgoghonnnobfaaDoor.Dec
open Go Go.RowKit Go.Proofs.YtlgoghonnnobfaaDoor.Fr Go.Proofs.YtlgoghonnnobfaaDoor.Enc
set_option linter.unusedVariables false
set_option linter.unusedSimpArgs false
/-- A quote ahead of a sign that needs none, without bytes behind a quote: the quote is written. -/
theorem dquo {Q : Exit → Act → World → Prop} {a : Act} {w : World} {m r : Int} {pm pb : Addr} {I : List UInt8 → World → Prop} {acc : List UInt8} {lim : Nat} (E : Env lim m pm pb I) (hL : acc.length ≤ lim) (hC : Ctx 553 pm pb r true a) (hI : I acc w) (hf : hb m 16777216 = false)
    (Hn : ∀ a' w', Same 288 547 a a' → I (acc ++ Lib.encodeRune 8219) w' → (piece [1, 1, 1, 1, 1, 1, 1, 1, 1, 1, 1, 1, 1, 1, 1, 1, 0, 1, 0, 0, 1, 1, 0, 1, 1, 1, 1, 1, 1, 1, 1, 1, 1, 1, 1, 1, 1, 1, 1, 1, 1, 1, 1, 1, 1, 1, 1] (Tryd.f30.body.getD .skip)).wp Tryd.prog Q a' w') :
    (piece [1, 1, 1, 1, 1, 1, 1, 1, 1, 1, 1, 1, 1, 1, 1, 1, 0, 1, 0, 0, 1, 1, 0, 1, 1, 1, 1, 1, 1, 1, 1, 1, 1, 1, 1, 1, 1, 1, 1, 1, 1, 1, 1, 1, 1, 1] (Tryd.f30.body.getD .skip)).wp Tryd.prog Q a w := by
  conv => arg 2; whnf
  refine wp_seq ?_
  refine wp_seq (r_move ?_)
  show Code.wp _ _ _ _ _
  rw [hC.uq]
  have s1 := (Same.refl a : Same 288 547 a a).put 519 (.bool true) (by decide) (by decide)
  have e1 := eval_same a 519 (.bool true) (by rw [hC.size]; decide)
  generalize a.put (some 519) (.bool true) = a1 at s1 e1
  have hC1 := hC.same s1 (by decide)
  have hz1 := hC1.size
  refine wp_cond e1 ?_
  rw [if_pos rfl]
  refine wp_seq ?_
  refine wp_seq (r_has (by omega) hC1.mask (E.cell _ _ hI) ?_)
  show Code.wp _ _ _ _ _
  refine wp_cond (eval_same _ _ _ (by rw [size_put]; omega)) ?_
  have s2 : Same 288 547 a ((a1.put (some 520) (.int .u64 m)).put (some 521) (.bool (hb m 16777216))) := (s1.put _ _ (by decide) (by decide)).put _ _ (by decide) (by decide)
  generalize (a1.put (some 520) (.int .u64 m)).put (some 521) (.bool (hb m 16777216)) = a2 at s2
  have hC2 := hC.same s2 (by decide)
  rw [hf, if_neg (by decide)]
  refine wp_skip ?_
  show Code.wp _ _ _ _ _
  refine r_wconst E hL hC2 hI (by decide) (by decide) fun v w' hI' => ?_
  exact Hn _ _ (s2.put _ _ (by decide) (by decide)) hI'
end Go.Proofs.YtlgoghonnnobfaaDoor.Dec
namespace Go.Proofs.YtlgoghonnnobfaaDoor.Dec
open Go Go.RowKit Go.Proofs.YtlgoghonnnobfaaDoor.Fr Go.Proofs.YtlgoghonnnobfaaDoor.Enc
set_option linter.unusedVariables false
set_option linter.unusedSimpArgs false
/-- What a sign writes without bytes behind a quote, and whether a quote is then ahead. 'raw': the bytes that stand there. -/
def dunit (m r : Int) (un : Bool) (raw : List UInt8) : List UInt8 × Bool :=
  if r = 9216 then (Lib.encodeRune (if un = true then r else 0), false)
  else if r = 8219 then (if un = true then Lib.encodeRune r else [], !un)
  else match decBy m r un Enc.bits with
    | some l => (l, false)
    | none => ((if un = true then Lib.encodeRune 8219 else []) ++ (if r = 65533 then raw else Lib.encodeRune r), false)
theorem DS.ctx {un sk uq : Bool} {s suf : ByteArray} {pm pb pit : Addr} {a : Act} {r : Int} (h : DS un sk s suf pm pb pit a) (h1 : a.eval (.tmp 25) = .int .i32 r) (h2 : a.eval (.tmp 21) = .bool uq) : Ctx 553 pm pb r uq a :=
  ⟨h.size, h.mask, h1, h.buf, h2⟩
theorem q_len : (Lib.encodeRune 8219).length = 3 := by decide
theorem dround {Q : Exit → Act → World → Prop} {s suf : ByteArray} {pm pb pit : Addr} {a : Act} {w : World} {m r : Int} {un sk : Bool} {I : List UInt8 → World → Prop} {acc : List UInt8} {lim pos l : Nat} (E : Env2 lim m pm pb I) (hL : acc.length + 16 ≤ lim) (hA : DS un sk s suf pm pb pit a) (hI : I acc w) (hf : hb m 16777216 = false)
    (h288 : a.eval (.tmp 288) = .tuple #[.bool true, .int .i64 (pos : Int), .int .i32 r]) (hr0 : 0 ≤ r) (hr1 : r ≤ 1114111) (hs : s.size ≤ 140737488355328) (hp : pos < s.size) (hl : (Lib.decodeGo (s.extract pos s.size)).2 = l) (hfit : pos + l ≤ s.size) (hl4 : l ≤ 4)
    (H1 : sk = true → ∀ a', DS un false s suf pm pb pit a' → Q (.exit 2) a' w)
    (H2 : sk = false → ∀ e a' w', (e = .exit 2 ∨ e = .normal) → DS (dunit m r un (s.extract pos (pos + l)).toList).2 false s suf pm pb pit a' → I (acc ++ (dunit m r un (s.extract pos (pos + l)).toList).1) w' → Q e a' w') :
    (piece [1, 1, 1, 1, 1, 1, 1, 1, 1, 1, 1, 1, 1, 1, 1, 1, 0, 1, 0, 0, 1, 1, 0] (Tryd.f30.body.getD .skip)).wp Tryd.prog Q a w := by
  refine dhead ⟨hA.size, hA.inn, hA.mask, hA.suf, hA.buf, hA.iter, hA.defers⟩ hA.un hA.sk h288 (fun h a' hB h1 h2 => H1 h a' (hB.ds h1 h2)) fun h a1 hB h21 h22 h23 h24 h25 => ?_
  have H2 := H2 h
  have D1 := hB.ds h22 h23
  clear hB
  refine dfirst E.env (by omega) (D1.ctx h25 h21) hI hr0 hr1 ?_ ?_ ?_ ?_
  · intro k a' w' hs' hI'
    refine H2 _ a' w' (.inl rfl) ?_ ?_
    · rw [dunit, if_pos k]; exact D1.same hs'
    · rw [dunit, if_pos k]; exact hI'
  · intro k k2 a' w' hs' hI'
    subst k2
    refine H2 _ a' w' (.inl rfl) ?_ ?_
    · rw [dunit, if_neg (by omega), if_pos k]; exact D1.same hs'
    · rw [dunit, if_neg (by omega), if_pos k]; exact hI'
  · intro k k2 a' hs'
    subst k2
    have D2 := D1.same hs'
    refine H2 _ _ w (.inl rfl) ?_ ?_
    · rw [dunit, if_neg (by omega), if_pos k]
      exact ⟨(size_put _ _ _).trans D2.size, (eval_other _ _ _ _ (by decide)).trans D2.inn, (eval_other _ _ _ _ (by decide)).trans D2.mask, (eval_other _ _ _ _ (by decide)).trans D2.suf, (eval_other _ _ _ _ (by decide)).trans D2.buf, (eval_other _ _ _ _ (by decide)).trans D2.iter, eval_same _ _ _ (by rw [D2.size]; decide), (eval_other _ _ _ _ (by decide)).trans D2.sk, (defers_put _ _ _).trans D2.defers⟩
    · rw [dunit, if_neg (by omega), if_pos k]; simpa using hI
  intro k1 k2 a2 hs2
  have g21 := (hs2.slot 21 (by decide)).trans h21
  have g24 := (hs2.slot 24 (by decide)).trans h24
  have g25 := (hs2.slot 25 (by decide)).trans h25
  have D2 := D1.same hs2
  refine dchain E.env (by omega) (D2.ctx g25 g21) hI hr0 hr1 ?_ ?_
  · intro ll a' w' hd hs' hI'
    refine H2 _ a' w' (.inl rfl) ?_ ?_
    · rw [dunit, if_neg k1, if_neg k2, hd]; exact D2.same hs'
    · rw [dunit, if_neg k1, if_neg k2, hd]; exact hI'
  intro hd a3 hs3
  rw [dunit, if_neg k1, if_neg k2, hd] at H2
  have i21 := (hs3.slot 21 (by decide)).trans g21
  have i24 := (hs3.slot 24 (by decide)).trans g24
  have i25 := (hs3.slot 25 (by decide)).trans g25
  have D3 := D2.same hs3
  cases un with
  | false =>
    refine dunq (m := m) (uq := false) (I := I) (acc := acc) (lim := lim) (D3.ctx i25 i21) fun a4 hs4 => ?_
    have D4 := D3.same hs4
    have j21 := (hs4.slot 21 (by decide)).trans i21
    have j24 := (hs4.slot 24 (by decide)).trans i24
    have j25 := (hs4.slot 25 (by decide)).trans i25
    by_cases k3 : r = 65533
    · refine derr (uq := false) E (by omega) D4 hI k3 j24 j25 hs hp hl hfit hl4 fun a' w' D hI' => ?_
      exact H2 _ a' w' (.inl rfl) D (by simpa [k3] using hI')
    · refine dstay E.env (by omega) (D4.ctx j25 j21) hI hr0 hr1 k3 fun a' w' hs' hI' => ?_
      exact H2 _ a' w' (.inr rfl) (D4.same hs') (by simpa [k3] using hI')
  | true =>
    refine dquo E.env (by omega) (D3.ctx i25 i21) hI hf fun a4 w4 hs4 hI4 => ?_
    have hq : (acc ++ Lib.encodeRune 8219).length = acc.length + 3 := by rw [List.length_append, q_len]
    have D4 := D3.same hs4
    have j21 := (hs4.slot 21 (by decide)).trans i21
    have j24 := (hs4.slot 24 (by decide)).trans i24
    have j25 := (hs4.slot 25 (by decide)).trans i25
    by_cases k3 : r = 65533
    · refine derr (uq := false) E (by omega) D4 hI4 k3 j24 j25 hs hp hl hfit hl4 fun a' w' D hI' => ?_
      exact H2 _ a' w' (.inl rfl) D (by simpa [k3] using hI')
    · refine dstay E.env (by omega) (D4.ctx j25 j21) hI4 hr0 hr1 k3 fun a' w' hs' hI' => ?_
      exact H2 _ a' w' (.inr rfl) (D4.same hs') (by simpa [k3] using hI')
end Go.Proofs.YtlgoghonnnobfaaDoor.Dec
namespace Go.Proofs.YtlgoghonnnobfaaDoor.Dec
open Go Go.RowKit Go.Proofs.YtlgoghonnnobfaaDoor.Fr Go.Proofs.YtlgoghonnnobfaaDoor.Enc
set_option linter.unusedVariables false
set_option linter.unusedSimpArgs false
/-! ### the shapes of the decoder's head and tail -/
section
variable {Q : Exit → Act → World → Prop} {a : Act} {w : World}
theorem qmove {P : Program} {ops : Array Oper} {C : World → Prop} {Q : Act → Prop} {d : Option Tmp} {x : Operand} {ty : TypeId} {pos : String} {aft : Array Edge} {rest : List Oper} {v : Value} (hx : a.eval x = v) (h : wpQuiet P ops C Q rest (a.put d v)) : wpQuiet P ops C Q ({ dst := d, op := .move x, type := ty, pos := pos, after := aft, guard := none } :: rest) a :=
  qstep rfl (fun _ => by rw [← hx]; rfl) h
theorem qassign {P : Program} {ops : Array Oper} {C : World → Prop} {Q : Act → Prop} {d : Option Tmp} {x : Operand} {ty : TypeId} {pos : String} {aft : Array Edge} {rest : List Oper} {v : Value} (hx : a.eval x = v) (h : wpQuiet P ops C Q rest (a.put d v)) : wpQuiet P ops C Q ({ dst := d, op := .assign x, type := ty, pos := pos, after := aft, guard := none } :: rest) a :=
  qstep rfl (fun _ => by rw [← hx]; rfl) h
theorem lmove {P : Program} {ops : Array Oper} {Q : Exit → Act → World → Prop} {d : Option Tmp} {x : Operand} {ty : TypeId} {pos : String} {aft : Array Edge} {rest : List Oper} {v : Value} (hx : a.eval x = v) (h : wpList P ops Q rest (a.put d v) w) : wpList P ops Q ({ dst := d, op := .move x, type := ty, pos := pos, after := aft, guard := none } :: rest) a w := by
  subst hx; exact Fr.move h
theorem lassign {P : Program} {ops : Array Oper} {Q : Exit → Act → World → Prop} {d : Option Tmp} {x : Operand} {ty : TypeId} {pos : String} {aft : Array Edge} {rest : List Oper} {v : Value} (hx : a.eval x = v) (h : wpList P ops Q rest (a.put d v) w) : wpList P ops Q ({ dst := d, op := .assign x, type := ty, pos := pos, after := aft, guard := none } :: rest) a w := by
  subst hx; exact assign h
/-- a text without its first character, and a head -/
theorem d_cut {id : Nat} {s S : ByteArray} {x zl l : Nat} {p0 p1 p2 p3 p4 : String} {f0 f1 f2 f3 f4 : Array Edge} (hB : Region.lexB .any ([{ dst := some (x), op := .move (.tmp (1)), type := 9, pos := p0, after := f0, guard := none }, { dst := some (x + 1), op := .move (.tmp (zl)), type := 3, pos := p1, after := f1, guard := none }, { dst := some (x + 2), op := .slice 9 (.tmp (x)) (some (.tmp (x + 1))) none none, type := 9, pos := p2, after := f2, guard := none }, { dst := some (5), op := .assign (.const (.string S)), type := 9, pos := p3, after := f3, guard := none }, { dst := some (1), op := .assign (.tmp (x + 2)), type := 9, pos := p4, after := f4, guard := none }] : List Oper).toArray = true) (h1 : a.eval (.tmp 1) = .string s) (hz : a.eval (.tmp zl) = .int .i64 (l : Int)) (hl : l ≤ s.size) (hx : 5 < x ∧ x + 2 < a.tmps.size ∧ zl < x)
    (H : ∀ n : Nat, ∀ a' : Act, a'.tmps.size = a.tmps.size → a'.defers = a.defers → (∀ k, k < x → k ≠ 1 → k ≠ 5 → a'.eval (.tmp k) = a.eval (.tmp k)) → a'.eval (.tmp (1)) = .string (s.extract l s.size) → a'.eval (.tmp (5)) = .string S → Q .normal a' (w.drewN n)) :
    (Code.region id #[{ dst := some (x), op := .move (.tmp (1)), type := 9, pos := p0, after := f0, guard := none }, { dst := some (x + 1), op := .move (.tmp (zl)), type := 3, pos := p1, after := f1, guard := none }, { dst := some (x + 2), op := .slice 9 (.tmp (x)) (some (.tmp (x + 1))) none none, type := 9, pos := p2, after := f2, guard := none }, { dst := some (5), op := .assign (.const (.string S)), type := 9, pos := p3, after := f3, guard := none }, { dst := some (1), op := .assign (.tmp (x + 2)), type := 9, pos := p4, after := f4, guard := none }] true).wp Tryd.prog Q a w := by
  refine wp_region_quiet_lit mixed hB ?_
  refine qmove (v := .string s) (by repeat (first | with_reducible exact eval_same _ _ _ (by first | omega | (simp only [size_put]; omega)) | rw [eval_other _ _ _ _ (by omega)] | with_reducible assumption)) ?_
  refine qmove (v := .int .i64 (l : Int)) (by repeat (first | with_reducible exact eval_same _ _ _ (by first | omega | (simp only [size_put]; omega)) | rw [eval_other _ _ _ _ (by omega)] | with_reducible assumption)) ?_
  refine qstep rfl (fun w => run_from (s := s) (i := l) Tryd.underlying9 (by repeat (first | with_reducible exact eval_same _ _ _ (by first | omega | (simp only [size_put]; omega)) | rw [eval_other _ _ _ _ (by omega)] | with_reducible assumption)) (by repeat (first | with_reducible exact eval_same _ _ _ (by first | omega | (simp only [size_put]; omega)) | rw [eval_other _ _ _ _ (by omega)] | with_reducible assumption)) hl) ?_
  refine qassign (v := .string S) rfl ?_
  refine qassign (v := .string (s.extract l s.size)) (by repeat (first | with_reducible exact eval_same _ _ _ (by first | omega | (simp only [size_put]; omega)) | rw [eval_other _ _ _ _ (by omega)] | with_reducible assumption)) ?_
  refine wpQuiet_nil ?_
  rintro w' ⟨n, rfl⟩
  refine H n _ (by simp only [size_put]) (by simp only [defers_put]) (fun k hk g0 g1 => ?_) (by repeat (first | with_reducible exact eval_same _ _ _ (by first | omega | (simp only [size_put]; omega)) | rw [eval_other _ _ _ _ (by omega)] | with_reducible assumption)) (by repeat (first | with_reducible exact eval_same _ _ _ (by first | omega | (simp only [size_put]; omega)) | rw [eval_other _ _ _ _ (by omega)] | with_reducible assumption))
  repeat rw [eval_other _ _ _ _ (by omega)]
/-- a text without its first character, and a head that is read of it -/
theorem d_cutr {id : Nat} {s S : ByteArray} {x z zl l : Nat} {r r2 : Int} {p0 p1 p2 p3 p4 p5 p6 p7 : String} {f0 f1 f2 f3 f4 f5 f6 f7 : Array Edge} (hB : Region.lexB .any ([{ dst := some (x), op := .move (.tmp (z)), type := 21, pos := p0, after := f0, guard := none }, { dst := some (x + 1), op := .binOp .sub 21 (.tmp (x)) (.const (.int .i32 9216)) 21, type := 21, pos := p1, after := f1, guard := none }, { dst := some (x + 2), op := .convert 21 9 (.tmp (x + 1)), type := 9, pos := p2, after := f2, guard := none }, { dst := some (x + 3), op := .move (.tmp (1)), type := 9, pos := p3, after := f3, guard := none }, { dst := some (x + 4), op := .move (.tmp (zl)), type := 3, pos := p4, after := f4, guard := none }, { dst := some (x + 5), op := .slice 9 (.tmp (x + 3)) (some (.tmp (x + 4))) none none, type := 9, pos := p5, after := f5, guard := none }, { dst := some (5), op := .assign (.tmp (x + 2)), type := 9, pos := p6, after := f6, guard := none }, { dst := some (1), op := .assign (.tmp (x + 5)), type := 9, pos := p7, after := f7, guard := none }] : List Oper).toArray = true) (h1 : a.eval (.tmp 1) = .string s) (hr : a.eval (.tmp z) = .int .i32 r) (hz : a.eval (.tmp zl) = .int .i64 (l : Int)) (hl : l ≤ s.size) (hx : 5 < x ∧ x + 5 < a.tmps.size ∧ zl < x ∧ z < x) (hw : IntKind.i32.wrap (r - 9216) = r2) (hc : ∀ w, (convert 21 9 (.int .i32 r2)).run Tryd.prog w = .ok (.string S) w)
    (H : ∀ n : Nat, ∀ a' : Act, a'.tmps.size = a.tmps.size → a'.defers = a.defers → (∀ k, k < x → k ≠ 1 → k ≠ 5 → a'.eval (.tmp k) = a.eval (.tmp k)) → a'.eval (.tmp (1)) = .string (s.extract l s.size) → a'.eval (.tmp (5)) = .string S → Q .normal a' (w.drewN n)) :
    (Code.region id #[{ dst := some (x), op := .move (.tmp (z)), type := 21, pos := p0, after := f0, guard := none }, { dst := some (x + 1), op := .binOp .sub 21 (.tmp (x)) (.const (.int .i32 9216)) 21, type := 21, pos := p1, after := f1, guard := none }, { dst := some (x + 2), op := .convert 21 9 (.tmp (x + 1)), type := 9, pos := p2, after := f2, guard := none }, { dst := some (x + 3), op := .move (.tmp (1)), type := 9, pos := p3, after := f3, guard := none }, { dst := some (x + 4), op := .move (.tmp (zl)), type := 3, pos := p4, after := f4, guard := none }, { dst := some (x + 5), op := .slice 9 (.tmp (x + 3)) (some (.tmp (x + 4))) none none, type := 9, pos := p5, after := f5, guard := none }, { dst := some (5), op := .assign (.tmp (x + 2)), type := 9, pos := p6, after := f6, guard := none }, { dst := some (1), op := .assign (.tmp (x + 5)), type := 9, pos := p7, after := f7, guard := none }] true).wp Tryd.prog Q a w := by
  refine wp_region_quiet_lit mixed hB ?_
  refine qmove (v := .int .i32 r) (by repeat (first | with_reducible exact eval_same _ _ _ (by first | omega | (simp only [size_put]; omega)) | rw [eval_other _ _ _ _ (by omega)] | with_reducible assumption)) ?_
  refine qstep rfl (fun w => run_subi (m := r) (n := 9216) Tryd.underlying21 (by repeat (first | with_reducible exact eval_same _ _ _ (by first | omega | (simp only [size_put]; omega)) | rw [eval_other _ _ _ _ (by omega)] | with_reducible assumption)) rfl) ?_
  rw [hw]
  refine qstep rfl (fun w => run_conv (u := .int .i32 r2) (v := .string S) (by repeat (first | with_reducible exact eval_same _ _ _ (by first | omega | (simp only [size_put]; omega)) | rw [eval_other _ _ _ _ (by omega)] | with_reducible assumption)) (hc w)) ?_
  refine qmove (v := .string s) (by repeat (first | with_reducible exact eval_same _ _ _ (by first | omega | (simp only [size_put]; omega)) | rw [eval_other _ _ _ _ (by omega)] | with_reducible assumption)) ?_
  refine qmove (v := .int .i64 (l : Int)) (by repeat (first | with_reducible exact eval_same _ _ _ (by first | omega | (simp only [size_put]; omega)) | rw [eval_other _ _ _ _ (by omega)] | with_reducible assumption)) ?_
  refine qstep rfl (fun w => run_from (s := s) (i := l) Tryd.underlying9 (by repeat (first | with_reducible exact eval_same _ _ _ (by first | omega | (simp only [size_put]; omega)) | rw [eval_other _ _ _ _ (by omega)] | with_reducible assumption)) (by repeat (first | with_reducible exact eval_same _ _ _ (by first | omega | (simp only [size_put]; omega)) | rw [eval_other _ _ _ _ (by omega)] | with_reducible assumption)) hl) ?_
  refine qassign (v := .string S) (by repeat (first | with_reducible exact eval_same _ _ _ (by first | omega | (simp only [size_put]; omega)) | rw [eval_other _ _ _ _ (by omega)] | with_reducible assumption)) ?_
  refine qassign (v := .string (s.extract l s.size)) (by repeat (first | with_reducible exact eval_same _ _ _ (by first | omega | (simp only [size_put]; omega)) | rw [eval_other _ _ _ _ (by omega)] | with_reducible assumption)) ?_
  refine wpQuiet_nil ?_
  rintro w' ⟨n, rfl⟩
  refine H n _ (by simp only [size_put]) (by simp only [defers_put]) (fun k hk g0 g1 => ?_) (by repeat (first | with_reducible exact eval_same _ _ _ (by first | omega | (simp only [size_put]; omega)) | rw [eval_other _ _ _ _ (by omega)] | with_reducible assumption)) (by repeat (first | with_reducible exact eval_same _ _ _ (by first | omega | (simp only [size_put]; omega)) | rw [eval_other _ _ _ _ (by omega)] | with_reducible assumption))
  repeat rw [eval_other _ _ _ _ (by omega)]
/-- what is read behind the first character -/
theorem d_dec2 {id : Nat} {s : ByteArray} {y zl l0 z g : Nat} {r l : Int} {I : World → Prop} {p0 p1 p2 p3 p4 p5 p6 p7 p8 : String} {f0 f1 f2 f3 f4 f5 f6 f7 f8 : Array Edge} (he : Enters Tryd.prog g) (h1 : a.eval (.tmp 1) = .string s) (hz : a.eval (.tmp zl) = .int .i64 (l0 : Int)) (hl : l0 ≤ s.size) (hcall : Calls Tryd.prog g #[.string (s.extract l0 s.size)] w fun e w' => e = .returned (.tuple #[.int .i32 r, .int .i64 l]) ∧ I w') (hx : z + 1 < y ∧ y + 6 < a.tmps.size ∧ zl < y ∧ 1 < y)
    (H : ∀ w', I w' → ∀ a' : Act, a'.tmps.size = a.tmps.size → a'.defers = a.defers → (∀ k, k < y → k ≠ z → k ≠ z + 1 → a'.eval (.tmp k) = a.eval (.tmp k)) → a'.eval (.tmp (z)) = .int .i32 r → a'.eval (.tmp (z + 1)) = .int .i64 l → Q .normal a' w') :
    (Code.region id #[{ dst := some (y + 1), op := .move (.tmp (1)), type := 9, pos := p0, after := f0, guard := none }, { dst := some (y + 2), op := .move (.tmp (zl)), type := 3, pos := p1, after := f1, guard := none }, { dst := some (y + 3), op := .slice 9 (.tmp (y + 1)) (some (.tmp (y + 2))) none none, type := 9, pos := p2, after := f2, guard := none }, { dst := some (y + 4), op := .call { callee := .value (.func g), args := #[.tmp (y + 3)], argTypes := #[9] }, type := 49, pos := p3, after := f3, guard := none }, { dst := some (y), op := .move (.tmp (y + 4)), type := 49, pos := p4, after := f4, guard := none }, { dst := some (y + 5), op := .extract (.tmp (y)) 0, type := 21, pos := p5, after := f5, guard := none }, { dst := some (y + 6), op := .extract (.tmp (y)) 1, type := 3, pos := p6, after := f6, guard := none }, { dst := some (z), op := .assign (.tmp (y + 5)), type := 21, pos := p7, after := f7, guard := none }, { dst := some (z + 1), op := .assign (.tmp (y + 6)), type := 3, pos := p8, after := f8, guard := none }] false).wp Tryd.prog Q a w := by
  refine wp_region_lit ?_
  refine lmove (v := .string s) (by repeat (first | with_reducible exact eval_same _ _ _ (by first | omega | (simp only [size_put]; omega)) | rw [eval_other _ _ _ _ (by omega)] | with_reducible assumption)) ?_
  refine lmove (v := .int .i64 (l0 : Int)) (by repeat (first | with_reducible exact eval_same _ _ _ (by first | omega | (simp only [size_put]; omega)) | rw [eval_other _ _ _ _ (by omega)] | with_reducible assumption)) ?_
  refine Fr.step rfl (run_from (s := s) (i := l0) Tryd.underlying9 (by repeat (first | with_reducible exact eval_same _ _ _ (by first | omega | (simp only [size_put]; omega)) | rw [eval_other _ _ _ _ (by omega)] | with_reducible assumption)) (by repeat (first | with_reducible exact eval_same _ _ _ (by first | omega | (simp only [size_put]; omega)) | rw [eval_other _ _ _ _ (by omega)] | with_reducible assumption)) hl) ?_
  refine call he ?_
  have e : ∀ b : Act, b.eval (.tmp (y + 3)) = .string (s.extract l0 s.size) → (#[Operand.tmp (y + 3)]).map b.eval = #[.string (s.extract l0 s.size)] := fun b hb => by simp [hb]
  rw [e _ (by repeat (first | with_reducible exact eval_same _ _ _ (by first | omega | (simp only [size_put]; omega)) | rw [eval_other _ _ _ _ (by omega)] | with_reducible assumption))]
  refine hcall.mono ?_
  rintro e' w' ⟨rfl, hI⟩
  refine ⟨_, rfl, ?_⟩
  refine lmove (v := .tuple #[.int .i32 r, .int .i64 l]) (by repeat (first | with_reducible exact eval_same _ _ _ (by first | omega | (simp only [size_put]; omega)) | rw [eval_other _ _ _ _ (by omega)] | with_reducible assumption)) ?_
  refine Fr.step rfl (run_extract (vs := #[.int .i32 r, .int .i64 l]) (v := .int .i32 r) (by repeat (first | with_reducible exact eval_same _ _ _ (by first | omega | (simp only [size_put]; omega)) | rw [eval_other _ _ _ _ (by omega)] | with_reducible assumption)) rfl) ?_
  refine Fr.step rfl (run_extract (vs := #[.int .i32 r, .int .i64 l]) (v := .int .i64 l) (by repeat (first | with_reducible exact eval_same _ _ _ (by first | omega | (simp only [size_put]; omega)) | rw [eval_other _ _ _ _ (by omega)] | with_reducible assumption)) rfl) ?_
  refine lassign (v := .int .i32 r) (by repeat (first | with_reducible exact eval_same _ _ _ (by first | omega | (simp only [size_put]; omega)) | rw [eval_other _ _ _ _ (by omega)] | with_reducible assumption)) ?_
  refine lassign (v := .int .i64 l) (by repeat (first | with_reducible exact eval_same _ _ _ (by first | omega | (simp only [size_put]; omega)) | rw [eval_other _ _ _ _ (by omega)] | with_reducible assumption)) ?_
  refine wpList_nil ?_
  refine H w' hI _ (by simp only [size_put]) (by simp only [defers_put]) (fun k hk g0 g1 => ?_) (by repeat (first | with_reducible exact eval_same _ _ _ (by first | omega | (simp only [size_put]; omega)) | rw [eval_other _ _ _ _ (by omega)] | with_reducible assumption)) (by repeat (first | with_reducible exact eval_same _ _ _ (by first | omega | (simp only [size_put]; omega)) | rw [eval_other _ _ _ _ (by omega)] | with_reducible assumption))
  repeat rw [eval_other _ _ _ _ (by omega)]
/-- what is read of a text -/
theorem d_dec1 {id : Nat} {s : ByteArray} {y z g : Nat} {r l : Int} {I : World → Prop} {p0 p1 p2 p3 p4 p5 p6 : String} {f0 f1 f2 f3 f4 f5 f6 : Array Edge} (he : Enters Tryd.prog g) (h1 : a.eval (.tmp 1) = .string s) (hcall : Calls Tryd.prog g #[.string s] w fun e w' => e = .returned (.tuple #[.int .i32 r, .int .i64 l]) ∧ I w') (hx : z + 1 < y ∧ y + 4 < a.tmps.size ∧ 1 < y)
    (H : ∀ w', I w' → ∀ a' : Act, a'.tmps.size = a.tmps.size → a'.defers = a.defers → (∀ k, k < y → k ≠ z → k ≠ z + 1 → a'.eval (.tmp k) = a.eval (.tmp k)) → a'.eval (.tmp (z)) = .int .i32 r → a'.eval (.tmp (z + 1)) = .int .i64 l → Q .normal a' w') :
    (Code.region id #[{ dst := some (y + 1), op := .move (.tmp (1)), type := 9, pos := p0, after := f0, guard := none }, { dst := some (y + 2), op := .call { callee := .value (.func g), args := #[.tmp (y + 1)], argTypes := #[9] }, type := 49, pos := p1, after := f1, guard := none }, { dst := some (y), op := .move (.tmp (y + 2)), type := 49, pos := p2, after := f2, guard := none }, { dst := some (y + 3), op := .extract (.tmp (y)) 0, type := 21, pos := p3, after := f3, guard := none }, { dst := some (y + 4), op := .extract (.tmp (y)) 1, type := 3, pos := p4, after := f4, guard := none }, { dst := some (z), op := .assign (.tmp (y + 3)), type := 21, pos := p5, after := f5, guard := none }, { dst := some (z + 1), op := .assign (.tmp (y + 4)), type := 3, pos := p6, after := f6, guard := none }] false).wp Tryd.prog Q a w := by
  refine wp_region_lit ?_
  refine lmove (v := .string s) (by repeat (first | with_reducible exact eval_same _ _ _ (by first | omega | (simp only [size_put]; omega)) | rw [eval_other _ _ _ _ (by omega)] | with_reducible assumption)) ?_
  refine call he ?_
  have e : ∀ b : Act, b.eval (.tmp (y + 1)) = .string (s) → (#[Operand.tmp (y + 1)]).map b.eval = #[.string (s)] := fun b hb => by simp [hb]
  rw [e _ (by repeat (first | with_reducible exact eval_same _ _ _ (by first | omega | (simp only [size_put]; omega)) | rw [eval_other _ _ _ _ (by omega)] | with_reducible assumption))]
  refine hcall.mono ?_
  rintro e' w' ⟨rfl, hI⟩
  refine ⟨_, rfl, ?_⟩
  refine lmove (v := .tuple #[.int .i32 r, .int .i64 l]) (by repeat (first | with_reducible exact eval_same _ _ _ (by first | omega | (simp only [size_put]; omega)) | rw [eval_other _ _ _ _ (by omega)] | with_reducible assumption)) ?_
  refine Fr.step rfl (run_extract (vs := #[.int .i32 r, .int .i64 l]) (v := .int .i32 r) (by repeat (first | with_reducible exact eval_same _ _ _ (by first | omega | (simp only [size_put]; omega)) | rw [eval_other _ _ _ _ (by omega)] | with_reducible assumption)) rfl) ?_
  refine Fr.step rfl (run_extract (vs := #[.int .i32 r, .int .i64 l]) (v := .int .i64 l) (by repeat (first | with_reducible exact eval_same _ _ _ (by first | omega | (simp only [size_put]; omega)) | rw [eval_other _ _ _ _ (by omega)] | with_reducible assumption)) rfl) ?_
  refine lassign (v := .int .i32 r) (by repeat (first | with_reducible exact eval_same _ _ _ (by first | omega | (simp only [size_put]; omega)) | rw [eval_other _ _ _ _ (by omega)] | with_reducible assumption)) ?_
  refine lassign (v := .int .i64 l) (by repeat (first | with_reducible exact eval_same _ _ _ (by first | omega | (simp only [size_put]; omega)) | rw [eval_other _ _ _ _ (by omega)] | with_reducible assumption)) ?_
  refine wpList_nil ?_
  refine H w' hI _ (by simp only [size_put]) (by simp only [defers_put]) (fun k hk g0 g1 => ?_) (by repeat (first | with_reducible exact eval_same _ _ _ (by first | omega | (simp only [size_put]; omega)) | rw [eval_other _ _ _ _ (by omega)] | with_reducible assumption)) (by repeat (first | with_reducible exact eval_same _ _ _ (by first | omega | (simp only [size_put]; omega)) | rw [eval_other _ _ _ _ (by omega)] | with_reducible assumption))
  repeat rw [eval_other _ _ _ _ (by omega)]
/-- a text without its first two characters, and a head -/
theorem d_cut2 {id : Nat} {s S : ByteArray} {x zl zm l l2 : Nat} {p0 p1 p2 p3 p4 p5 p6 : String} {f0 f1 f2 f3 f4 f5 f6 : Array Edge} (hB : Region.lexB .any ([{ dst := some (x), op := .move (.tmp (1)), type := 9, pos := p0, after := f0, guard := none }, { dst := some (x + 1), op := .move (.tmp (zl)), type := 3, pos := p1, after := f1, guard := none }, { dst := some (x + 2), op := .move (.tmp (zm)), type := 3, pos := p2, after := f2, guard := none }, { dst := some (x + 3), op := .binOp .add 3 (.tmp (x + 1)) (.tmp (x + 2)) 3, type := 3, pos := p3, after := f3, guard := none }, { dst := some (x + 4), op := .slice 9 (.tmp (x)) (some (.tmp (x + 3))) none none, type := 9, pos := p4, after := f4, guard := none }, { dst := some (5), op := .assign (.const (.string S)), type := 9, pos := p5, after := f5, guard := none }, { dst := some (1), op := .assign (.tmp (x + 4)), type := 9, pos := p6, after := f6, guard := none }] : List Oper).toArray = true) (h1 : a.eval (.tmp 1) = .string s) (hz : a.eval (.tmp zl) = .int .i64 (l : Int)) (hm : a.eval (.tmp zm) = .int .i64 (l2 : Int)) (hl : l + l2 ≤ s.size) (hn : s.size ≤ 140737488355328) (hx : 5 < x ∧ x + 4 < a.tmps.size ∧ zl < x ∧ zm < x)
    (H : ∀ n : Nat, ∀ a' : Act, a'.tmps.size = a.tmps.size → a'.defers = a.defers → (∀ k, k < x → k ≠ 1 → k ≠ 5 → a'.eval (.tmp k) = a.eval (.tmp k)) → a'.eval (.tmp (1)) = .string (s.extract (l + l2) s.size) → a'.eval (.tmp (5)) = .string S → Q .normal a' (w.drewN n)) :
    (Code.region id #[{ dst := some (x), op := .move (.tmp (1)), type := 9, pos := p0, after := f0, guard := none }, { dst := some (x + 1), op := .move (.tmp (zl)), type := 3, pos := p1, after := f1, guard := none }, { dst := some (x + 2), op := .move (.tmp (zm)), type := 3, pos := p2, after := f2, guard := none }, { dst := some (x + 3), op := .binOp .add 3 (.tmp (x + 1)) (.tmp (x + 2)) 3, type := 3, pos := p3, after := f3, guard := none }, { dst := some (x + 4), op := .slice 9 (.tmp (x)) (some (.tmp (x + 3))) none none, type := 9, pos := p4, after := f4, guard := none }, { dst := some (5), op := .assign (.const (.string S)), type := 9, pos := p5, after := f5, guard := none }, { dst := some (1), op := .assign (.tmp (x + 4)), type := 9, pos := p6, after := f6, guard := none }] true).wp Tryd.prog Q a w := by
  have hw : IntKind.i64.wrap ((l : Int) + (l2 : Int)) = ((l + l2 : Nat) : Int) := by rw [IntWalk.i64_in _ (by omega)]; simp
  refine wp_region_quiet_lit mixed hB ?_
  refine qmove (v := .string s) (by repeat (first | with_reducible exact eval_same _ _ _ (by first | omega | (simp only [size_put]; omega)) | rw [eval_other _ _ _ _ (by omega)] | with_reducible assumption)) ?_
  refine qmove (v := .int .i64 (l : Int)) (by repeat (first | with_reducible exact eval_same _ _ _ (by first | omega | (simp only [size_put]; omega)) | rw [eval_other _ _ _ _ (by omega)] | with_reducible assumption)) ?_
  refine qmove (v := .int .i64 (l2 : Int)) (by repeat (first | with_reducible exact eval_same _ _ _ (by first | omega | (simp only [size_put]; omega)) | rw [eval_other _ _ _ _ (by omega)] | with_reducible assumption)) ?_
  refine qstep rfl (fun w => run_addi (m := (l : Int)) (n := (l2 : Int)) Tryd.underlying3 (by repeat (first | with_reducible exact eval_same _ _ _ (by first | omega | (simp only [size_put]; omega)) | rw [eval_other _ _ _ _ (by omega)] | with_reducible assumption)) (by repeat (first | with_reducible exact eval_same _ _ _ (by first | omega | (simp only [size_put]; omega)) | rw [eval_other _ _ _ _ (by omega)] | with_reducible assumption))) ?_
  rw [hw]
  refine qstep rfl (fun w => run_from (s := s) (i := (l + l2)) Tryd.underlying9 (by repeat (first | with_reducible exact eval_same _ _ _ (by first | omega | (simp only [size_put]; omega)) | rw [eval_other _ _ _ _ (by omega)] | with_reducible assumption)) (by repeat (first | with_reducible exact eval_same _ _ _ (by first | omega | (simp only [size_put]; omega)) | rw [eval_other _ _ _ _ (by omega)] | with_reducible assumption)) hl) ?_
  refine qassign (v := .string S) rfl ?_
  refine qassign (v := .string (s.extract (l + l2) s.size)) (by repeat (first | with_reducible exact eval_same _ _ _ (by first | omega | (simp only [size_put]; omega)) | rw [eval_other _ _ _ _ (by omega)] | with_reducible assumption)) ?_
  refine wpQuiet_nil ?_
  rintro w' ⟨n, rfl⟩
  refine H n _ (by simp only [size_put]) (by simp only [defers_put]) (fun k hk g0 g1 => ?_) (by repeat (first | with_reducible exact eval_same _ _ _ (by first | omega | (simp only [size_put]; omega)) | rw [eval_other _ _ _ _ (by omega)] | with_reducible assumption)) (by repeat (first | with_reducible exact eval_same _ _ _ (by first | omega | (simp only [size_put]; omega)) | rw [eval_other _ _ _ _ (by omega)] | with_reducible assumption))
  repeat rw [eval_other _ _ _ _ (by omega)]
/-- a text without its first two characters, and a head that is read of it -/
theorem d_cut2r {id : Nat} {s S : ByteArray} {x z zl zm l l2 : Nat} {r : Int} {p0 p1 p2 p3 p4 p5 p6 p7 p8 : String} {f0 f1 f2 f3 f4 f5 f6 f7 f8 : Array Edge} (hB : Region.lexB .any ([{ dst := some (x), op := .move (.tmp (z)), type := 21, pos := p0, after := f0, guard := none }, { dst := some (x + 1), op := .convert 21 9 (.tmp (x)), type := 9, pos := p1, after := f1, guard := none }, { dst := some (x + 2), op := .move (.tmp (1)), type := 9, pos := p2, after := f2, guard := none }, { dst := some (x + 3), op := .move (.tmp (zl)), type := 3, pos := p3, after := f3, guard := none }, { dst := some (x + 4), op := .move (.tmp (zm)), type := 3, pos := p4, after := f4, guard := none }, { dst := some (x + 5), op := .binOp .add 3 (.tmp (x + 3)) (.tmp (x + 4)) 3, type := 3, pos := p5, after := f5, guard := none }, { dst := some (x + 6), op := .slice 9 (.tmp (x + 2)) (some (.tmp (x + 5))) none none, type := 9, pos := p6, after := f6, guard := none }, { dst := some (5), op := .assign (.tmp (x + 1)), type := 9, pos := p7, after := f7, guard := none }, { dst := some (1), op := .assign (.tmp (x + 6)), type := 9, pos := p8, after := f8, guard := none }] : List Oper).toArray = true) (h1 : a.eval (.tmp 1) = .string s) (hr : a.eval (.tmp z) = .int .i32 r) (hz : a.eval (.tmp zl) = .int .i64 (l : Int)) (hm : a.eval (.tmp zm) = .int .i64 (l2 : Int)) (hl : l + l2 ≤ s.size) (hn : s.size ≤ 140737488355328) (hx : 5 < x ∧ x + 6 < a.tmps.size ∧ zl < x ∧ zm < x ∧ z < x) (hc : ∀ w, (convert 21 9 (.int .i32 r)).run Tryd.prog w = .ok (.string S) w)
    (H : ∀ n : Nat, ∀ a' : Act, a'.tmps.size = a.tmps.size → a'.defers = a.defers → (∀ k, k < x → k ≠ 1 → k ≠ 5 → a'.eval (.tmp k) = a.eval (.tmp k)) → a'.eval (.tmp (1)) = .string (s.extract (l + l2) s.size) → a'.eval (.tmp (5)) = .string S → Q .normal a' (w.drewN n)) :
    (Code.region id #[{ dst := some (x), op := .move (.tmp (z)), type := 21, pos := p0, after := f0, guard := none }, { dst := some (x + 1), op := .convert 21 9 (.tmp (x)), type := 9, pos := p1, after := f1, guard := none }, { dst := some (x + 2), op := .move (.tmp (1)), type := 9, pos := p2, after := f2, guard := none }, { dst := some (x + 3), op := .move (.tmp (zl)), type := 3, pos := p3, after := f3, guard := none }, { dst := some (x + 4), op := .move (.tmp (zm)), type := 3, pos := p4, after := f4, guard := none }, { dst := some (x + 5), op := .binOp .add 3 (.tmp (x + 3)) (.tmp (x + 4)) 3, type := 3, pos := p5, after := f5, guard := none }, { dst := some (x + 6), op := .slice 9 (.tmp (x + 2)) (some (.tmp (x + 5))) none none, type := 9, pos := p6, after := f6, guard := none }, { dst := some (5), op := .assign (.tmp (x + 1)), type := 9, pos := p7, after := f7, guard := none }, { dst := some (1), op := .assign (.tmp (x + 6)), type := 9, pos := p8, after := f8, guard := none }] true).wp Tryd.prog Q a w := by
  have hw : IntKind.i64.wrap ((l : Int) + (l2 : Int)) = ((l + l2 : Nat) : Int) := by rw [IntWalk.i64_in _ (by omega)]; simp
  refine wp_region_quiet_lit mixed hB ?_
  refine qmove (v := .int .i32 r) (by repeat (first | with_reducible exact eval_same _ _ _ (by first | omega | (simp only [size_put]; omega)) | rw [eval_other _ _ _ _ (by omega)] | with_reducible assumption)) ?_
  refine qstep rfl (fun w => run_conv (u := .int .i32 r) (v := .string S) (by repeat (first | with_reducible exact eval_same _ _ _ (by first | omega | (simp only [size_put]; omega)) | rw [eval_other _ _ _ _ (by omega)] | with_reducible assumption)) (hc w)) ?_
  refine qmove (v := .string s) (by repeat (first | with_reducible exact eval_same _ _ _ (by first | omega | (simp only [size_put]; omega)) | rw [eval_other _ _ _ _ (by omega)] | with_reducible assumption)) ?_
  refine qmove (v := .int .i64 (l : Int)) (by repeat (first | with_reducible exact eval_same _ _ _ (by first | omega | (simp only [size_put]; omega)) | rw [eval_other _ _ _ _ (by omega)] | with_reducible assumption)) ?_
  refine qmove (v := .int .i64 (l2 : Int)) (by repeat (first | with_reducible exact eval_same _ _ _ (by first | omega | (simp only [size_put]; omega)) | rw [eval_other _ _ _ _ (by omega)] | with_reducible assumption)) ?_
  refine qstep rfl (fun w => run_addi (m := (l : Int)) (n := (l2 : Int)) Tryd.underlying3 (by repeat (first | with_reducible exact eval_same _ _ _ (by first | omega | (simp only [size_put]; omega)) | rw [eval_other _ _ _ _ (by omega)] | with_reducible assumption)) (by repeat (first | with_reducible exact eval_same _ _ _ (by first | omega | (simp only [size_put]; omega)) | rw [eval_other _ _ _ _ (by omega)] | with_reducible assumption))) ?_
  rw [hw]
  refine qstep rfl (fun w => run_from (s := s) (i := (l + l2)) Tryd.underlying9 (by repeat (first | with_reducible exact eval_same _ _ _ (by first | omega | (simp only [size_put]; omega)) | rw [eval_other _ _ _ _ (by omega)] | with_reducible assumption)) (by repeat (first | with_reducible exact eval_same _ _ _ (by first | omega | (simp only [size_put]; omega)) | rw [eval_other _ _ _ _ (by omega)] | with_reducible assumption)) hl) ?_
  refine qassign (v := .string S) (by repeat (first | with_reducible exact eval_same _ _ _ (by first | omega | (simp only [size_put]; omega)) | rw [eval_other _ _ _ _ (by omega)] | with_reducible assumption)) ?_
  refine qassign (v := .string (s.extract (l + l2) s.size)) (by repeat (first | with_reducible exact eval_same _ _ _ (by first | omega | (simp only [size_put]; omega)) | rw [eval_other _ _ _ _ (by omega)] | with_reducible assumption)) ?_
  refine wpQuiet_nil ?_
  rintro w' ⟨n, rfl⟩
  refine H n _ (by simp only [size_put]) (by simp only [defers_put]) (fun k hk g0 g1 => ?_) (by repeat (first | with_reducible exact eval_same _ _ _ (by first | omega | (simp only [size_put]; omega)) | rw [eval_other _ _ _ _ (by omega)] | with_reducible assumption)) (by repeat (first | with_reducible exact eval_same _ _ _ (by first | omega | (simp only [size_put]; omega)) | rw [eval_other _ _ _ _ (by omega)] | with_reducible assumption))
  repeat rw [eval_other _ _ _ _ (by omega)]
/-- a text without its last character -/
theorem d_end {id : Nat} {s : ByteArray} {x zl l : Nat} {p0 p1 p2 p3 p4 p5 p6 : String} {f0 f1 f2 f3 f4 f5 f6 : Array Edge} (h1 : a.eval (.tmp 1) = .string s) (hz : a.eval (.tmp zl) = .int .i64 (l : Int)) (hl : l ≤ s.size) (hn : s.size ≤ 140737488355328) (hx : 1 < x ∧ x + 5 < a.tmps.size ∧ zl < x)
    (H : ∀ a' : Act, a'.tmps.size = a.tmps.size → a'.defers = a.defers → (∀ k, k < x → k ≠ 1 → a'.eval (.tmp k) = a.eval (.tmp k)) → a'.eval (.tmp (1)) = .string (s.extract 0 (s.size - l)) → Q .normal a' w) :
    (Code.region id #[{ dst := some (x), op := .move (.tmp (1)), type := 9, pos := p0, after := f0, guard := none }, { dst := some (x + 1), op := .move (.tmp (1)), type := 9, pos := p1, after := f1, guard := none }, { dst := some (x + 2), op := .call { callee := .builtin .len, args := #[.tmp (x + 1)], argTypes := #[9] }, type := 3, pos := p2, after := f2, guard := none }, { dst := some (x + 3), op := .move (.tmp (zl)), type := 3, pos := p3, after := f3, guard := none }, { dst := some (x + 4), op := .binOp .sub 3 (.tmp (x + 2)) (.tmp (x + 3)) 3, type := 3, pos := p4, after := f4, guard := none }, { dst := some (x + 5), op := .slice 9 (.tmp (x)) none (some (.tmp (x + 4))) none, type := 9, pos := p5, after := f5, guard := none }, { dst := some (1), op := .assign (.tmp (x + 5)), type := 9, pos := p6, after := f6, guard := none }] false).wp Tryd.prog Q a w := by
  have hw := wrap_sub s.size l hl hn
  refine wp_region_lit ?_
  refine lmove (v := .string s) (by repeat (first | with_reducible exact eval_same _ _ _ (by first | omega | (simp only [size_put]; omega)) | rw [eval_other _ _ _ _ (by omega)] | with_reducible assumption)) ?_
  refine lmove (v := .string s) (by repeat (first | with_reducible exact eval_same _ _ _ (by first | omega | (simp only [size_put]; omega)) | rw [eval_other _ _ _ _ (by omega)] | with_reducible assumption)) ?_
  refine Fr.step rfl (run_len (s := s) Tryd.underlying9 (by repeat (first | with_reducible exact eval_same _ _ _ (by first | omega | (simp only [size_put]; omega)) | rw [eval_other _ _ _ _ (by omega)] | with_reducible assumption))) ?_
  refine lmove (v := .int .i64 (l : Int)) (by repeat (first | with_reducible exact eval_same _ _ _ (by first | omega | (simp only [size_put]; omega)) | rw [eval_other _ _ _ _ (by omega)] | with_reducible assumption)) ?_
  refine Fr.step rfl (run_subi (m := (s.size : Int)) (n := (l : Int)) Tryd.underlying3 (by repeat (first | with_reducible exact eval_same _ _ _ (by first | omega | (simp only [size_put]; omega)) | rw [eval_other _ _ _ _ (by omega)] | with_reducible assumption)) (by repeat (first | with_reducible exact eval_same _ _ _ (by first | omega | (simp only [size_put]; omega)) | rw [eval_other _ _ _ _ (by omega)] | with_reducible assumption))) ?_
  rw [hw]
  refine Fr.step rfl (run_to (s := s) (i := (s.size - l)) Tryd.underlying9 (by repeat (first | with_reducible exact eval_same _ _ _ (by first | omega | (simp only [size_put]; omega)) | rw [eval_other _ _ _ _ (by omega)] | with_reducible assumption)) (by repeat (first | with_reducible exact eval_same _ _ _ (by first | omega | (simp only [size_put]; omega)) | rw [eval_other _ _ _ _ (by omega)] | with_reducible assumption)) (by omega)) ?_
  refine lassign (v := .string (s.extract 0 (s.size - l))) (by repeat (first | with_reducible exact eval_same _ _ _ (by first | omega | (simp only [size_put]; omega)) | rw [eval_other _ _ _ _ (by omega)] | with_reducible assumption)) ?_
  refine wpList_nil ?_
  refine H _ (by simp only [size_put]) (by simp only [defers_put]) (fun k hk g0 => ?_) (by repeat (first | with_reducible exact eval_same _ _ _ (by first | omega | (simp only [size_put]; omega)) | rw [eval_other _ _ _ _ (by omega)] | with_reducible assumption))
  repeat rw [eval_other _ _ _ _ (by omega)]
/-- a text without its last character, and a tail -/
theorem d_endc {id : Nat} {s S : ByteArray} {x zl l : Nat} {p0 p1 p2 p3 p4 p5 p6 p7 : String} {f0 f1 f2 f3 f4 f5 f6 f7 : Array Edge} (hB : Region.lexB .any ([{ dst := some (x), op := .move (.tmp (1)), type := 9, pos := p0, after := f0, guard := none }, { dst := some (x + 1), op := .move (.tmp (1)), type := 9, pos := p1, after := f1, guard := none }, { dst := some (x + 2), op := .call { callee := .builtin .len, args := #[.tmp (x + 1)], argTypes := #[9] }, type := 3, pos := p2, after := f2, guard := none }, { dst := some (x + 3), op := .move (.tmp (zl)), type := 3, pos := p3, after := f3, guard := none }, { dst := some (x + 4), op := .binOp .sub 3 (.tmp (x + 2)) (.tmp (x + 3)) 3, type := 3, pos := p4, after := f4, guard := none }, { dst := some (x + 5), op := .slice 9 (.tmp (x)) none (some (.tmp (x + 4))) none, type := 9, pos := p5, after := f5, guard := none }, { dst := some (10), op := .assign (.const (.string S)), type := 9, pos := p6, after := f6, guard := none }, { dst := some (1), op := .assign (.tmp (x + 5)), type := 9, pos := p7, after := f7, guard := none }] : List Oper).toArray = true) (h1 : a.eval (.tmp 1) = .string s) (hz : a.eval (.tmp zl) = .int .i64 (l : Int)) (hl : l ≤ s.size) (hn : s.size ≤ 140737488355328) (hx : 10 < x ∧ x + 5 < a.tmps.size ∧ zl < x)
    (H : ∀ n : Nat, ∀ a' : Act, a'.tmps.size = a.tmps.size → a'.defers = a.defers → (∀ k, k < x → k ≠ 1 → k ≠ 10 → a'.eval (.tmp k) = a.eval (.tmp k)) → a'.eval (.tmp (1)) = .string (s.extract 0 (s.size - l)) → a'.eval (.tmp (10)) = .string S → Q .normal a' (w.drewN n)) :
    (Code.region id #[{ dst := some (x), op := .move (.tmp (1)), type := 9, pos := p0, after := f0, guard := none }, { dst := some (x + 1), op := .move (.tmp (1)), type := 9, pos := p1, after := f1, guard := none }, { dst := some (x + 2), op := .call { callee := .builtin .len, args := #[.tmp (x + 1)], argTypes := #[9] }, type := 3, pos := p2, after := f2, guard := none }, { dst := some (x + 3), op := .move (.tmp (zl)), type := 3, pos := p3, after := f3, guard := none }, { dst := some (x + 4), op := .binOp .sub 3 (.tmp (x + 2)) (.tmp (x + 3)) 3, type := 3, pos := p4, after := f4, guard := none }, { dst := some (x + 5), op := .slice 9 (.tmp (x)) none (some (.tmp (x + 4))) none, type := 9, pos := p5, after := f5, guard := none }, { dst := some (10), op := .assign (.const (.string S)), type := 9, pos := p6, after := f6, guard := none }, { dst := some (1), op := .assign (.tmp (x + 5)), type := 9, pos := p7, after := f7, guard := none }] true).wp Tryd.prog Q a w := by
  have hw := wrap_sub s.size l hl hn
  refine wp_region_quiet_lit mixed hB ?_
  refine qmove (v := .string s) (by repeat (first | with_reducible exact eval_same _ _ _ (by first | omega | (simp only [size_put]; omega)) | rw [eval_other _ _ _ _ (by omega)] | with_reducible assumption)) ?_
  refine qmove (v := .string s) (by repeat (first | with_reducible exact eval_same _ _ _ (by first | omega | (simp only [size_put]; omega)) | rw [eval_other _ _ _ _ (by omega)] | with_reducible assumption)) ?_
  refine qstep rfl (fun w => run_len (s := s) Tryd.underlying9 (by repeat (first | with_reducible exact eval_same _ _ _ (by first | omega | (simp only [size_put]; omega)) | rw [eval_other _ _ _ _ (by omega)] | with_reducible assumption))) ?_
  refine qmove (v := .int .i64 (l : Int)) (by repeat (first | with_reducible exact eval_same _ _ _ (by first | omega | (simp only [size_put]; omega)) | rw [eval_other _ _ _ _ (by omega)] | with_reducible assumption)) ?_
  refine qstep rfl (fun w => run_subi (m := (s.size : Int)) (n := (l : Int)) Tryd.underlying3 (by repeat (first | with_reducible exact eval_same _ _ _ (by first | omega | (simp only [size_put]; omega)) | rw [eval_other _ _ _ _ (by omega)] | with_reducible assumption)) (by repeat (first | with_reducible exact eval_same _ _ _ (by first | omega | (simp only [size_put]; omega)) | rw [eval_other _ _ _ _ (by omega)] | with_reducible assumption))) ?_
  rw [hw]
  refine qstep rfl (fun w => run_to (s := s) (i := (s.size - l)) Tryd.underlying9 (by repeat (first | with_reducible exact eval_same _ _ _ (by first | omega | (simp only [size_put]; omega)) | rw [eval_other _ _ _ _ (by omega)] | with_reducible assumption)) (by repeat (first | with_reducible exact eval_same _ _ _ (by first | omega | (simp only [size_put]; omega)) | rw [eval_other _ _ _ _ (by omega)] | with_reducible assumption)) (by omega)) ?_
  refine qassign (v := .string S) rfl ?_
  refine qassign (v := .string (s.extract 0 (s.size - l))) (by repeat (first | with_reducible exact eval_same _ _ _ (by first | omega | (simp only [size_put]; omega)) | rw [eval_other _ _ _ _ (by omega)] | with_reducible assumption)) ?_
  refine wpQuiet_nil ?_
  rintro w' ⟨n, rfl⟩
  refine H n _ (by simp only [size_put]) (by simp only [defers_put]) (fun k hk g0 g1 => ?_) (by repeat (first | with_reducible exact eval_same _ _ _ (by first | omega | (simp only [size_put]; omega)) | rw [eval_other _ _ _ _ (by omega)] | with_reducible assumption)) (by repeat (first | with_reducible exact eval_same _ _ _ (by first | omega | (simp only [size_put]; omega)) | rw [eval_other _ _ _ _ (by omega)] | with_reducible assumption))
  repeat rw [eval_other _ _ _ _ (by omega)]
/-- a text without its last character, and a tail that is read of it -/
theorem d_endr {id : Nat} {s S : ByteArray} {x z zl l : Nat} {r : Int} {p0 p1 p2 p3 p4 p5 p6 p7 p8 p9 : String} {f0 f1 f2 f3 f4 f5 f6 f7 f8 f9 : Array Edge} (hB : Region.lexB .any ([{ dst := some (x), op := .move (.tmp (z)), type := 21, pos := p0, after := f0, guard := none }, { dst := some (x + 1), op := .convert 21 9 (.tmp (x)), type := 9, pos := p1, after := f1, guard := none }, { dst := some (x + 2), op := .move (.tmp (1)), type := 9, pos := p2, after := f2, guard := none }, { dst := some (x + 3), op := .move (.tmp (1)), type := 9, pos := p3, after := f3, guard := none }, { dst := some (x + 4), op := .call { callee := .builtin .len, args := #[.tmp (x + 3)], argTypes := #[9] }, type := 3, pos := p4, after := f4, guard := none }, { dst := some (x + 5), op := .move (.tmp (zl)), type := 3, pos := p5, after := f5, guard := none }, { dst := some (x + 6), op := .binOp .sub 3 (.tmp (x + 4)) (.tmp (x + 5)) 3, type := 3, pos := p6, after := f6, guard := none }, { dst := some (x + 7), op := .slice 9 (.tmp (x + 2)) none (some (.tmp (x + 6))) none, type := 9, pos := p7, after := f7, guard := none }, { dst := some (10), op := .assign (.tmp (x + 1)), type := 9, pos := p8, after := f8, guard := none }, { dst := some (1), op := .assign (.tmp (x + 7)), type := 9, pos := p9, after := f9, guard := none }] : List Oper).toArray = true) (h1 : a.eval (.tmp 1) = .string s) (hr : a.eval (.tmp z) = .int .i32 r) (hz : a.eval (.tmp zl) = .int .i64 (l : Int)) (hl : l ≤ s.size) (hn : s.size ≤ 140737488355328) (hx : 10 < x ∧ x + 7 < a.tmps.size ∧ zl < x ∧ z < x) (hc : ∀ w, (convert 21 9 (.int .i32 r)).run Tryd.prog w = .ok (.string S) w)
    (H : ∀ n : Nat, ∀ a' : Act, a'.tmps.size = a.tmps.size → a'.defers = a.defers → (∀ k, k < x → k ≠ 1 → k ≠ 10 → a'.eval (.tmp k) = a.eval (.tmp k)) → a'.eval (.tmp (1)) = .string (s.extract 0 (s.size - l)) → a'.eval (.tmp (10)) = .string S → Q .normal a' (w.drewN n)) :
    (Code.region id #[{ dst := some (x), op := .move (.tmp (z)), type := 21, pos := p0, after := f0, guard := none }, { dst := some (x + 1), op := .convert 21 9 (.tmp (x)), type := 9, pos := p1, after := f1, guard := none }, { dst := some (x + 2), op := .move (.tmp (1)), type := 9, pos := p2, after := f2, guard := none }, { dst := some (x + 3), op := .move (.tmp (1)), type := 9, pos := p3, after := f3, guard := none }, { dst := some (x + 4), op := .call { callee := .builtin .len, args := #[.tmp (x + 3)], argTypes := #[9] }, type := 3, pos := p4, after := f4, guard := none }, { dst := some (x + 5), op := .move (.tmp (zl)), type := 3, pos := p5, after := f5, guard := none }, { dst := some (x + 6), op := .binOp .sub 3 (.tmp (x + 4)) (.tmp (x + 5)) 3, type := 3, pos := p6, after := f6, guard := none }, { dst := some (x + 7), op := .slice 9 (.tmp (x + 2)) none (some (.tmp (x + 6))) none, type := 9, pos := p7, after := f7, guard := none }, { dst := some (10), op := .assign (.tmp (x + 1)), type := 9, pos := p8, after := f8, guard := none }, { dst := some (1), op := .assign (.tmp (x + 7)), type := 9, pos := p9, after := f9, guard := none }] true).wp Tryd.prog Q a w := by
  have hw := wrap_sub s.size l hl hn
  refine wp_region_quiet_lit mixed hB ?_
  refine qmove (v := .int .i32 r) (by repeat (first | with_reducible exact eval_same _ _ _ (by first | omega | (simp only [size_put]; omega)) | rw [eval_other _ _ _ _ (by omega)] | with_reducible assumption)) ?_
  refine qstep rfl (fun w => run_conv (u := .int .i32 r) (v := .string S) (by repeat (first | with_reducible exact eval_same _ _ _ (by first | omega | (simp only [size_put]; omega)) | rw [eval_other _ _ _ _ (by omega)] | with_reducible assumption)) (hc w)) ?_
  refine qmove (v := .string s) (by repeat (first | with_reducible exact eval_same _ _ _ (by first | omega | (simp only [size_put]; omega)) | rw [eval_other _ _ _ _ (by omega)] | with_reducible assumption)) ?_
  refine qmove (v := .string s) (by repeat (first | with_reducible exact eval_same _ _ _ (by first | omega | (simp only [size_put]; omega)) | rw [eval_other _ _ _ _ (by omega)] | with_reducible assumption)) ?_
  refine qstep rfl (fun w => run_len (s := s) Tryd.underlying9 (by repeat (first | with_reducible exact eval_same _ _ _ (by first | omega | (simp only [size_put]; omega)) | rw [eval_other _ _ _ _ (by omega)] | with_reducible assumption))) ?_
  refine qmove (v := .int .i64 (l : Int)) (by repeat (first | with_reducible exact eval_same _ _ _ (by first | omega | (simp only [size_put]; omega)) | rw [eval_other _ _ _ _ (by omega)] | with_reducible assumption)) ?_
  refine qstep rfl (fun w => run_subi (m := (s.size : Int)) (n := (l : Int)) Tryd.underlying3 (by repeat (first | with_reducible exact eval_same _ _ _ (by first | omega | (simp only [size_put]; omega)) | rw [eval_other _ _ _ _ (by omega)] | with_reducible assumption)) (by repeat (first | with_reducible exact eval_same _ _ _ (by first | omega | (simp only [size_put]; omega)) | rw [eval_other _ _ _ _ (by omega)] | with_reducible assumption))) ?_
  rw [hw]
  refine qstep rfl (fun w => run_to (s := s) (i := (s.size - l)) Tryd.underlying9 (by repeat (first | with_reducible exact eval_same _ _ _ (by first | omega | (simp only [size_put]; omega)) | rw [eval_other _ _ _ _ (by omega)] | with_reducible assumption)) (by repeat (first | with_reducible exact eval_same _ _ _ (by first | omega | (simp only [size_put]; omega)) | rw [eval_other _ _ _ _ (by omega)] | with_reducible assumption)) (by omega)) ?_
  refine qassign (v := .string S) (by repeat (first | with_reducible exact eval_same _ _ _ (by first | omega | (simp only [size_put]; omega)) | rw [eval_other _ _ _ _ (by omega)] | with_reducible assumption)) ?_
  refine qassign (v := .string (s.extract 0 (s.size - l))) (by repeat (first | with_reducible exact eval_same _ _ _ (by first | omega | (simp only [size_put]; omega)) | rw [eval_other _ _ _ _ (by omega)] | with_reducible assumption)) ?_
  refine wpQuiet_nil ?_
  rintro w' ⟨n, rfl⟩
  refine H n _ (by simp only [size_put]) (by simp only [defers_put]) (fun k hk g0 g1 => ?_) (by repeat (first | with_reducible exact eval_same _ _ _ (by first | omega | (simp only [size_put]; omega)) | rw [eval_other _ _ _ _ (by omega)] | with_reducible assumption)) (by repeat (first | with_reducible exact eval_same _ _ _ (by first | omega | (simp only [size_put]; omega)) | rw [eval_other _ _ _ _ (by omega)] | with_reducible assumption))
  repeat rw [eval_other _ _ _ _ (by omega)]
/-- a tail that is read -/
theorem d_tailr {id : Nat} {S : ByteArray} {x z : Nat} {r r2 : Int} {p0 p1 p2 p3 : String} {f0 f1 f2 f3 : Array Edge} (hr : a.eval (.tmp z) = .int .i32 r) (hx : 10 < x ∧ x + 2 < a.tmps.size ∧ z < x) (hw : IntKind.i32.wrap (r - 9216) = r2) (hc : ∀ w, (convert 21 9 (.int .i32 r2)).run Tryd.prog w = .ok (.string S) w)
    (H : ∀ a' : Act, a'.tmps.size = a.tmps.size → a'.defers = a.defers → (∀ k, k < x → k ≠ 10 → a'.eval (.tmp k) = a.eval (.tmp k)) → a'.eval (.tmp (10)) = .string S → Q .normal a' w) :
    (Code.region id #[{ dst := some (x), op := .move (.tmp (z)), type := 21, pos := p0, after := f0, guard := none }, { dst := some (x + 1), op := .binOp .sub 21 (.tmp (x)) (.const (.int .i32 9216)) 21, type := 21, pos := p1, after := f1, guard := none }, { dst := some (x + 2), op := .convert 21 9 (.tmp (x + 1)), type := 9, pos := p2, after := f2, guard := none }, { dst := some (10), op := .assign (.tmp (x + 2)), type := 9, pos := p3, after := f3, guard := none }] false).wp Tryd.prog Q a w := by
  refine wp_region_lit ?_
  refine lmove (v := .int .i32 r) (by repeat (first | with_reducible exact eval_same _ _ _ (by first | omega | (simp only [size_put]; omega)) | rw [eval_other _ _ _ _ (by omega)] | with_reducible assumption)) ?_
  refine Fr.step rfl (run_subi (m := r) (n := 9216) Tryd.underlying21 (by repeat (first | with_reducible exact eval_same _ _ _ (by first | omega | (simp only [size_put]; omega)) | rw [eval_other _ _ _ _ (by omega)] | with_reducible assumption)) rfl) ?_
  rw [hw]
  refine Fr.step rfl (run_conv (u := .int .i32 r2) (v := .string S) (by repeat (first | with_reducible exact eval_same _ _ _ (by first | omega | (simp only [size_put]; omega)) | rw [eval_other _ _ _ _ (by omega)] | with_reducible assumption)) (hc w)) ?_
  refine lassign (v := .string S) (by repeat (first | with_reducible exact eval_same _ _ _ (by first | omega | (simp only [size_put]; omega)) | rw [eval_other _ _ _ _ (by omega)] | with_reducible assumption)) ?_
  refine wpList_nil ?_
  refine H _ (by simp only [size_put]) (by simp only [defers_put]) (fun k hk g0 => ?_) (by repeat (first | with_reducible exact eval_same _ _ _ (by first | omega | (simp only [size_put]; omega)) | rw [eval_other _ _ _ _ (by omega)] | with_reducible assumption))
  repeat rw [eval_other _ _ _ _ (by omega)]
/-- The slots below x stay. -/
structure Kp (x : Nat) (a b : Act) : Prop where
  low : ∀ k, k < x → b.eval (.tmp k) = a.eval (.tmp k)
  size : b.tmps.size = a.tmps.size
  defers : b.defers = a.defers
theorem Kp.refl (x : Nat) (a : Act) : Kp x a a := ⟨fun _ _ => rfl, rfl, rfl⟩
theorem Kp.put {x : Nat} {a b : Act} (h : Kp x a b) (d : Nat) (v : Value) (hd : x ≤ d) : Kp x a (b.put (some d) v) :=
  ⟨fun k hk => (eval_other _ _ _ _ (by omega)).trans (h.low k hk), (size_put _ _ _).trans h.size, (defers_put _ _ _).trans h.defers⟩
theorem run_mv {P : Program} {x : Operand} {d : Option Tmp} {ty : TypeId} {pos : String} {aft : Array Edge} {g : Option (Nat × Bool)} {v : Value} (hx : a.eval x = v) :
    (execOp a.eval { dst := d, op := .move x, type := ty, pos := pos, after := aft, guard := g }).run P w = .ok (.value v) w := by
  subst hx; rfl
theorem run_pickt {P : Program} {x y z : Operand} {d : Option Tmp} {ty : TypeId} {pos : String} {aft : Array Edge} {g : Option (Nat × Bool)} {v : Value} (hx : a.eval x = .bool true) (hy : a.eval y = v) :
    (execOp a.eval { dst := d, op := .pick x y z, type := ty, pos := pos, after := aft, guard := g }).run P w = .ok (.value v) w := by
  rw [run_pick hx, if_pos rfl, hy]
theorem run_pickf {P : Program} {x y z : Operand} {d : Option Tmp} {ty : TypeId} {pos : String} {aft : Array Edge} {g : Option (Nat × Bool)} {v : Value} (hx : a.eval x = .bool false) (hz : a.eval z = v) :
    (execOp a.eval { dst := d, op := .pick x y z, type := ty, pos := pos, after := aft, guard := g }).run P w = .ok (.value v) w := by
  rw [run_pick hx, if_neg (by decide), hz]
theorem yielded_off {ops : Array Oper} {a : Act} {j d : Nat} (h : (ops[j]?).bind (·.dst) = some d) (hd : d < a.tmps.size) (he : a.eval (.tmp d) = undef) : yielded ops a.tmps j = none := by
  unfold yielded
  rw [h]
  simp only [Option.bind_some]
  have e : a.tmps[d]? = some undef := by
    simp only [Act.eval, Array.getD_eq_getD_getElem?] at he
    rw [Array.getElem?_eq_getElem hd] at he ⊢
    simpa using he
  rw [e]
  rfl
theorem guard_off {P : Program} {ops : Array Oper} {Q : Exit → Act → World → Prop} {rest : List Oper} {o : Oper} {j d : Nat} {b : Bool} (hg : o.guard = some (j, b)) (hj : (ops[j]?).bind (·.dst) = some d) (hd : d < a.tmps.size) (he : a.eval (.tmp d) = undef)
    (h : wpList P ops Q rest (a.put o.dst undef) w) : wpList P ops Q (o :: rest) a w := by
  unfold wpList
  rw [if_neg (by simp [Region.wanted, hg, yielded_off hj hd he])]
  exact h
set_option maxHeartbeats 8000000 in
/-- A flag, and one of some characters. -/
theorem d_has1 {id x z : Nat} {m f r c : Int} {pm : Addr} {p0 p1 p2 p3 p4 p5 : String} {f0 f1 f2 f3 f4 f5 : Array Edge} (h2 : a.eval (.tmp 2) = .pointer (some pm)) (hcell : w.cell? pm = some (.int .u64 m)) (hv : a.eval (.tmp z) = .int .i32 r) (hx : 2 < x ∧ z < x ∧ x + 5 < a.tmps.size)
    (H : ∀ a', (∀ k, k < x → a'.eval (.tmp k) = a.eval (.tmp k)) → a'.tmps.size = a.tmps.size → a'.defers = a.defers → a'.eval (.tmp (x + 5)) = .bool (hb m f && (r == c)) → Q .normal a' w) :
    (Code.region id #[{ dst := some (x), op := .load 39 (.tmp 2), type := 39, pos := p0, after := f0, guard := none }, { dst := some (x + 1), op := .call { callee := .value (.func 40), args := #[.tmp x, .const (.int .u64 f)], argTypes := #[39, 39] }, type := 4, pos := p1, after := f1, guard := none }, { dst := some (x + 2), op := .move (.tmp (x + 1)), type := 4, pos := p2, after := f2, guard := none }, { dst := some (x + 3), op := .move (.tmp z), type := 21, pos := p3, after := f3, guard := some (2, true) }, { dst := some (x + 4), op := .binOp .eql 21 (.tmp (x + 3)) (.const (.int .i32 c)) 21, type := 4, pos := p4, after := f4, guard := some (2, true) }, { dst := some (x + 5), op := .pick (.tmp (x + 2)) (.tmp (x + 4)) (.const (.bool false)), type := 4, pos := p5, after := f5, guard := none }] false).wp Tryd.prog Q a w := by
  refine wp_region_lit ?_
  refine Fr.load Tryd.underlying39 h2 hcell ?_
  refine call enters40 ?_
  have e : (#[Operand.tmp x, .const (.int .u64 f)]).map (a.put (some x) (.int .u64 m)).eval = #[.int .u64 m, .int .u64 f] := by
    simp [eval_same _ _ _ (show x < a.tmps.size by omega), eval_const]
  rw [e]
  refine (has_any m f w).mono ?_
  rintro e w' ⟨rfl, rfl⟩
  refine ⟨_, rfl, ?_⟩
  refine lmove (v := .bool (hb m f)) (eval_same _ _ _ (by rw [size_put]; omega)) ?_
  have K2 : Kp x a (((a.put (some x) (.int .u64 m)).put (some (x + 1)) (.bool (hb m f))).put (some (x + 2)) (.bool (hb m f))) := (((Kp.refl x a).put _ _ (by omega)).put _ _ (by omega)).put _ _ (by omega)
  have e2 := eval_same ((a.put (some x) (.int .u64 m)).put (some (x + 1)) (.bool (hb m f))) (x + 2) (.bool (hb m f)) (by rw [size_put, size_put]; omega)
  show wpList _ _ _ _ (((a.put (some x) (.int .u64 m)).put (some (x + 1)) (.bool (hb m f))).put (some (x + 2)) (.bool (hb m f))) w
  generalize (((a.put (some x) (.int .u64 m)).put (some (x + 1)) (.bool (hb m f))).put (some (x + 2)) (.bool (hb m f))) = b2 at K2 e2
  cases hh : hb m f with
  | false =>
    rw [hh] at H e2
    simp only [Bool.false_and] at H
    refine guard_no (j := 2) (b := true) (c := false) (d := x + 2) rfl rfl (by rw [K2.size]; omega) e2 (by decide) ?_
    show wpList _ _ _ _ (b2.put (some (x + 3)) (undef)) _
    have K3 := K2.put (x + 3) (undef) (by omega)
    have e2_3 := (eval_other b2 (x + 3) (x + 2) (undef) (by omega)).trans e2
    have e3_3 := eval_same b2 (x + 3) (undef) (by rw [K2.size]; omega)
    generalize b2.put (some (x + 3)) (undef) = b3 at K3 e2_3 e3_3 ⊢
    refine guard_no (j := 2) (b := true) (c := false) (d := x + 2) rfl rfl (by rw [K3.size]; omega) e2_3 (by decide) ?_
    show wpList _ _ _ _ (b3.put (some (x + 4)) (undef)) _
    have K4 := K3.put (x + 4) (undef) (by omega)
    have e2_4 := (eval_other b3 (x + 4) (x + 2) (undef) (by omega)).trans e2_3
    have e4_4 := eval_same b3 (x + 4) (undef) (by rw [K3.size]; omega)
    generalize b3.put (some (x + 4)) (undef) = b4 at K4 e2_4 e4_4 ⊢
    refine Fr.step (v := .bool false) rfl (run_pickf e2_4 rfl) ?_
    show wpList _ _ _ _ (b4.put (some (x + 5)) (.bool false)) _
    have K5 := K4.put (x + 5) (.bool false) (by omega)
    have e5_5 := eval_same b4 (x + 5) (.bool false) (by rw [K4.size]; omega)
    generalize b4.put (some (x + 5)) (.bool false) = b5 at K5 e5_5 ⊢
    exact wpList_nil (H _ (fun k hk => K5.low k hk) K5.size K5.defers e5_5)
  | true =>
    rw [hh] at H e2
    simp only [Bool.true_and] at H
    cases kb0 : (r == c) with
    | true =>
      rw [kb0] at H
      refine guard_yes (v := .int .i32 r) (j := 2) (b := true) (d := x + 2) rfl rfl (by rw [K2.size]; omega) e2 (run_mv ((K2.low z (by omega)).trans hv)) ?_
      show wpList _ _ _ _ (b2.put (some (x + 3)) (.int .i32 r)) _
      have K3 := K2.put (x + 3) (.int .i32 r) (by omega)
      have e2_3 := (eval_other b2 (x + 3) (x + 2) (.int .i32 r) (by omega)).trans e2
      have e3_3 := eval_same b2 (x + 3) (.int .i32 r) (by rw [K2.size]; omega)
      generalize b2.put (some (x + 3)) (.int .i32 r) = b3 at K3 e2_3 e3_3 ⊢
      refine guard_yes (v := .bool true) (j := 2) (b := true) (d := x + 2) rfl rfl (by rw [K3.size]; omega) e2_3 (by conv => { rhs; rw [← kb0] }; exact run_eqli (m := r) (n := c) Tryd.underlying21 e3_3 rfl) ?_
      show wpList _ _ _ _ (b3.put (some (x + 4)) (.bool true)) _
      have K4 := K3.put (x + 4) (.bool true) (by omega)
      have e2_4 := (eval_other b3 (x + 4) (x + 2) (.bool true) (by omega)).trans e2_3
      have e4_4 := eval_same b3 (x + 4) (.bool true) (by rw [K3.size]; omega)
      generalize b3.put (some (x + 4)) (.bool true) = b4 at K4 e2_4 e4_4 ⊢
      refine Fr.step (v := .bool true) rfl (run_pickt e2_4 e4_4) ?_
      show wpList _ _ _ _ (b4.put (some (x + 5)) (.bool true)) _
      have K5 := K4.put (x + 5) (.bool true) (by omega)
      have e5_5 := eval_same b4 (x + 5) (.bool true) (by rw [K4.size]; omega)
      generalize b4.put (some (x + 5)) (.bool true) = b5 at K5 e5_5 ⊢
      exact wpList_nil (H _ (fun k hk => K5.low k hk) K5.size K5.defers e5_5)
    | false =>
      rw [kb0] at H
      refine guard_yes (v := .int .i32 r) (j := 2) (b := true) (d := x + 2) rfl rfl (by rw [K2.size]; omega) e2 (run_mv ((K2.low z (by omega)).trans hv)) ?_
      show wpList _ _ _ _ (b2.put (some (x + 3)) (.int .i32 r)) _
      have K3 := K2.put (x + 3) (.int .i32 r) (by omega)
      have e2_3 := (eval_other b2 (x + 3) (x + 2) (.int .i32 r) (by omega)).trans e2
      have e3_3 := eval_same b2 (x + 3) (.int .i32 r) (by rw [K2.size]; omega)
      generalize b2.put (some (x + 3)) (.int .i32 r) = b3 at K3 e2_3 e3_3 ⊢
      refine guard_yes (v := .bool false) (j := 2) (b := true) (d := x + 2) rfl rfl (by rw [K3.size]; omega) e2_3 (by conv => { rhs; rw [← kb0] }; exact run_eqli (m := r) (n := c) Tryd.underlying21 e3_3 rfl) ?_
      show wpList _ _ _ _ (b3.put (some (x + 4)) (.bool false)) _
      have K4 := K3.put (x + 4) (.bool false) (by omega)
      have e2_4 := (eval_other b3 (x + 4) (x + 2) (.bool false) (by omega)).trans e2_3
      have e4_4 := eval_same b3 (x + 4) (.bool false) (by rw [K3.size]; omega)
      generalize b3.put (some (x + 4)) (.bool false) = b4 at K4 e2_4 e4_4 ⊢
      refine Fr.step (v := .bool false) rfl (run_pickt e2_4 e4_4) ?_
      show wpList _ _ _ _ (b4.put (some (x + 5)) (.bool false)) _
      have K5 := K4.put (x + 5) (.bool false) (by omega)
      have e5_5 := eval_same b4 (x + 5) (.bool false) (by rw [K4.size]; omega)
      generalize b4.put (some (x + 5)) (.bool false) = b5 at K5 e5_5 ⊢
      exact wpList_nil (H _ (fun k hk => K5.low k hk) K5.size K5.defers e5_5)
set_option maxHeartbeats 8000000 in
/-- A flag, and one of some characters. -/
theorem d_has4 {id x z : Nat} {m f r : Int} {pm : Addr} {p0 p1 p2 p3 p4 p5 p6 p7 p8 p9 p10 p11 p12 p13 p14 p15 p16 p17 : String} {f0 f1 f2 f3 f4 f5 f6 f7 f8 f9 f10 f11 f12 f13 f14 f15 f16 f17 : Array Edge} (h2 : a.eval (.tmp 2) = .pointer (some pm)) (hcell : w.cell? pm = some (.int .u64 m)) (hv : a.eval (.tmp z) = .int .i32 r) (hx : 2 < x ∧ z < x ∧ x + 17 < a.tmps.size)
    (H : ∀ a', (∀ k, k < x → a'.eval (.tmp k) = a.eval (.tmp k)) → a'.tmps.size = a.tmps.size → a'.defers = a.defers → a'.eval (.tmp (x + 17)) = .bool (hb m f && (r == 9225 || r == 9226 || r == 9227 || r == 9229)) → Q .normal a' w) :
    (Code.region id #[{ dst := some (x), op := .load 39 (.tmp 2), type := 39, pos := p0, after := f0, guard := none }, { dst := some (x + 1), op := .call { callee := .value (.func 40), args := #[.tmp x, .const (.int .u64 f)], argTypes := #[39, 39] }, type := 4, pos := p1, after := f1, guard := none }, { dst := some (x + 2), op := .move (.tmp (x + 1)), type := 4, pos := p2, after := f2, guard := none }, { dst := some (x + 3), op := .move (.tmp z), type := 21, pos := p3, after := f3, guard := some (2, true) }, { dst := some (x + 4), op := .binOp .eql 21 (.tmp (x + 3)) (.const (.int .i32 9225)) 21, type := 4, pos := p4, after := f4, guard := some (2, true) }, { dst := some (x + 5), op := .move (.tmp (x + 4)), type := 4, pos := p5, after := f5, guard := some (2, true) }, { dst := some (x + 6), op := .move (.tmp z), type := 21, pos := p6, after := f6, guard := some (5, false) }, { dst := some (x + 7), op := .binOp .eql 21 (.tmp (x + 6)) (.const (.int .i32 9226)) 21, type := 4, pos := p7, after := f7, guard := some (5, false) }, { dst := some (x + 8), op := .pick (.tmp (x + 5)) (.const (.bool true)) (.tmp (x + 7)), type := 4, pos := p8, after := f8, guard := some (2, true) }, { dst := some (x + 9), op := .move (.tmp (x + 8)), type := 4, pos := p9, after := f9, guard := some (2, true) }, { dst := some (x + 10), op := .move (.tmp z), type := 21, pos := p10, after := f10, guard := some (9, false) }, { dst := some (x + 11), op := .binOp .eql 21 (.tmp (x + 10)) (.const (.int .i32 9227)) 21, type := 4, pos := p11, after := f11, guard := some (9, false) }, { dst := some (x + 12), op := .pick (.tmp (x + 9)) (.const (.bool true)) (.tmp (x + 11)), type := 4, pos := p12, after := f12, guard := some (2, true) }, { dst := some (x + 13), op := .move (.tmp (x + 12)), type := 4, pos := p13, after := f13, guard := some (2, true) }, { dst := some (x + 14), op := .move (.tmp z), type := 21, pos := p14, after := f14, guard := some (13, false) }, { dst := some (x + 15), op := .binOp .eql 21 (.tmp (x + 14)) (.const (.int .i32 9229)) 21, type := 4, pos := p15, after := f15, guard := some (13, false) }, { dst := some (x + 16), op := .pick (.tmp (x + 13)) (.const (.bool true)) (.tmp (x + 15)), type := 4, pos := p16, after := f16, guard := some (2, true) }, { dst := some (x + 17), op := .pick (.tmp (x + 2)) (.tmp (x + 16)) (.const (.bool false)), type := 4, pos := p17, after := f17, guard := none }] false).wp Tryd.prog Q a w := by
  refine wp_region_lit ?_
  refine Fr.load Tryd.underlying39 h2 hcell ?_
  refine call enters40 ?_
  have e : (#[Operand.tmp x, .const (.int .u64 f)]).map (a.put (some x) (.int .u64 m)).eval = #[.int .u64 m, .int .u64 f] := by
    simp [eval_same _ _ _ (show x < a.tmps.size by omega), eval_const]
  rw [e]
  refine (has_any m f w).mono ?_
  rintro e w' ⟨rfl, rfl⟩
  refine ⟨_, rfl, ?_⟩
  refine lmove (v := .bool (hb m f)) (eval_same _ _ _ (by rw [size_put]; omega)) ?_
  have K2 : Kp x a (((a.put (some x) (.int .u64 m)).put (some (x + 1)) (.bool (hb m f))).put (some (x + 2)) (.bool (hb m f))) := (((Kp.refl x a).put _ _ (by omega)).put _ _ (by omega)).put _ _ (by omega)
  have e2 := eval_same ((a.put (some x) (.int .u64 m)).put (some (x + 1)) (.bool (hb m f))) (x + 2) (.bool (hb m f)) (by rw [size_put, size_put]; omega)
  show wpList _ _ _ _ (((a.put (some x) (.int .u64 m)).put (some (x + 1)) (.bool (hb m f))).put (some (x + 2)) (.bool (hb m f))) w
  generalize (((a.put (some x) (.int .u64 m)).put (some (x + 1)) (.bool (hb m f))).put (some (x + 2)) (.bool (hb m f))) = b2 at K2 e2
  cases hh : hb m f with
  | false =>
    rw [hh] at H e2
    simp only [Bool.false_and] at H
    refine guard_no (j := 2) (b := true) (c := false) (d := x + 2) rfl rfl (by rw [K2.size]; omega) e2 (by decide) ?_
    show wpList _ _ _ _ (b2.put (some (x + 3)) (undef)) _
    have K3 := K2.put (x + 3) (undef) (by omega)
    have e2_3 := (eval_other b2 (x + 3) (x + 2) (undef) (by omega)).trans e2
    have e3_3 := eval_same b2 (x + 3) (undef) (by rw [K2.size]; omega)
    generalize b2.put (some (x + 3)) (undef) = b3 at K3 e2_3 e3_3 ⊢
    refine guard_no (j := 2) (b := true) (c := false) (d := x + 2) rfl rfl (by rw [K3.size]; omega) e2_3 (by decide) ?_
    show wpList _ _ _ _ (b3.put (some (x + 4)) (undef)) _
    have K4 := K3.put (x + 4) (undef) (by omega)
    have e2_4 := (eval_other b3 (x + 4) (x + 2) (undef) (by omega)).trans e2_3
    have e4_4 := eval_same b3 (x + 4) (undef) (by rw [K3.size]; omega)
    generalize b3.put (some (x + 4)) (undef) = b4 at K4 e2_4 e4_4 ⊢
    refine guard_no (j := 2) (b := true) (c := false) (d := x + 2) rfl rfl (by rw [K4.size]; omega) e2_4 (by decide) ?_
    show wpList _ _ _ _ (b4.put (some (x + 5)) (undef)) _
    have K5 := K4.put (x + 5) (undef) (by omega)
    have e2_5 := (eval_other b4 (x + 5) (x + 2) (undef) (by omega)).trans e2_4
    have e5_5 := eval_same b4 (x + 5) (undef) (by rw [K4.size]; omega)
    generalize b4.put (some (x + 5)) (undef) = b5 at K5 e2_5 e5_5 ⊢
    refine guard_off (j := 5) (b := false) (d := x + 5) rfl rfl (by rw [K5.size]; omega) e5_5 ?_
    show wpList _ _ _ _ (b5.put (some (x + 6)) (undef)) _
    have K6 := K5.put (x + 6) (undef) (by omega)
    have e2_6 := (eval_other b5 (x + 6) (x + 2) (undef) (by omega)).trans e2_5
    have e5_6 := (eval_other b5 (x + 6) (x + 5) (undef) (by omega)).trans e5_5
    have e6_6 := eval_same b5 (x + 6) (undef) (by rw [K5.size]; omega)
    generalize b5.put (some (x + 6)) (undef) = b6 at K6 e2_6 e5_6 e6_6 ⊢
    refine guard_off (j := 5) (b := false) (d := x + 5) rfl rfl (by rw [K6.size]; omega) e5_6 ?_
    show wpList _ _ _ _ (b6.put (some (x + 7)) (undef)) _
    have K7 := K6.put (x + 7) (undef) (by omega)
    have e2_7 := (eval_other b6 (x + 7) (x + 2) (undef) (by omega)).trans e2_6
    have e5_7 := (eval_other b6 (x + 7) (x + 5) (undef) (by omega)).trans e5_6
    have e7_7 := eval_same b6 (x + 7) (undef) (by rw [K6.size]; omega)
    generalize b6.put (some (x + 7)) (undef) = b7 at K7 e2_7 e5_7 e7_7 ⊢
    refine guard_no (j := 2) (b := true) (c := false) (d := x + 2) rfl rfl (by rw [K7.size]; omega) e2_7 (by decide) ?_
    show wpList _ _ _ _ (b7.put (some (x + 8)) (undef)) _
    have K8 := K7.put (x + 8) (undef) (by omega)
    have e2_8 := (eval_other b7 (x + 8) (x + 2) (undef) (by omega)).trans e2_7
    have e8_8 := eval_same b7 (x + 8) (undef) (by rw [K7.size]; omega)
    generalize b7.put (some (x + 8)) (undef) = b8 at K8 e2_8 e8_8 ⊢
    refine guard_no (j := 2) (b := true) (c := false) (d := x + 2) rfl rfl (by rw [K8.size]; omega) e2_8 (by decide) ?_
    show wpList _ _ _ _ (b8.put (some (x + 9)) (undef)) _
    have K9 := K8.put (x + 9) (undef) (by omega)
    have e2_9 := (eval_other b8 (x + 9) (x + 2) (undef) (by omega)).trans e2_8
    have e9_9 := eval_same b8 (x + 9) (undef) (by rw [K8.size]; omega)
    generalize b8.put (some (x + 9)) (undef) = b9 at K9 e2_9 e9_9 ⊢
    refine guard_off (j := 9) (b := false) (d := x + 9) rfl rfl (by rw [K9.size]; omega) e9_9 ?_
    show wpList _ _ _ _ (b9.put (some (x + 10)) (undef)) _
    have K10 := K9.put (x + 10) (undef) (by omega)
    have e2_10 := (eval_other b9 (x + 10) (x + 2) (undef) (by omega)).trans e2_9
    have e9_10 := (eval_other b9 (x + 10) (x + 9) (undef) (by omega)).trans e9_9
    have e10_10 := eval_same b9 (x + 10) (undef) (by rw [K9.size]; omega)
    generalize b9.put (some (x + 10)) (undef) = b10 at K10 e2_10 e9_10 e10_10 ⊢
    refine guard_off (j := 9) (b := false) (d := x + 9) rfl rfl (by rw [K10.size]; omega) e9_10 ?_
    show wpList _ _ _ _ (b10.put (some (x + 11)) (undef)) _
    have K11 := K10.put (x + 11) (undef) (by omega)
    have e2_11 := (eval_other b10 (x + 11) (x + 2) (undef) (by omega)).trans e2_10
    have e9_11 := (eval_other b10 (x + 11) (x + 9) (undef) (by omega)).trans e9_10
    have e11_11 := eval_same b10 (x + 11) (undef) (by rw [K10.size]; omega)
    generalize b10.put (some (x + 11)) (undef) = b11 at K11 e2_11 e9_11 e11_11 ⊢
    refine guard_no (j := 2) (b := true) (c := false) (d := x + 2) rfl rfl (by rw [K11.size]; omega) e2_11 (by decide) ?_
    show wpList _ _ _ _ (b11.put (some (x + 12)) (undef)) _
    have K12 := K11.put (x + 12) (undef) (by omega)
    have e2_12 := (eval_other b11 (x + 12) (x + 2) (undef) (by omega)).trans e2_11
    have e12_12 := eval_same b11 (x + 12) (undef) (by rw [K11.size]; omega)
    generalize b11.put (some (x + 12)) (undef) = b12 at K12 e2_12 e12_12 ⊢
    refine guard_no (j := 2) (b := true) (c := false) (d := x + 2) rfl rfl (by rw [K12.size]; omega) e2_12 (by decide) ?_
    show wpList _ _ _ _ (b12.put (some (x + 13)) (undef)) _
    have K13 := K12.put (x + 13) (undef) (by omega)
    have e2_13 := (eval_other b12 (x + 13) (x + 2) (undef) (by omega)).trans e2_12
    have e13_13 := eval_same b12 (x + 13) (undef) (by rw [K12.size]; omega)
    generalize b12.put (some (x + 13)) (undef) = b13 at K13 e2_13 e13_13 ⊢
    refine guard_off (j := 13) (b := false) (d := x + 13) rfl rfl (by rw [K13.size]; omega) e13_13 ?_
    show wpList _ _ _ _ (b13.put (some (x + 14)) (undef)) _
    have K14 := K13.put (x + 14) (undef) (by omega)
    have e2_14 := (eval_other b13 (x + 14) (x + 2) (undef) (by omega)).trans e2_13
    have e13_14 := (eval_other b13 (x + 14) (x + 13) (undef) (by omega)).trans e13_13
    have e14_14 := eval_same b13 (x + 14) (undef) (by rw [K13.size]; omega)
    generalize b13.put (some (x + 14)) (undef) = b14 at K14 e2_14 e13_14 e14_14 ⊢
    refine guard_off (j := 13) (b := false) (d := x + 13) rfl rfl (by rw [K14.size]; omega) e13_14 ?_
    show wpList _ _ _ _ (b14.put (some (x + 15)) (undef)) _
    have K15 := K14.put (x + 15) (undef) (by omega)
    have e2_15 := (eval_other b14 (x + 15) (x + 2) (undef) (by omega)).trans e2_14
    have e13_15 := (eval_other b14 (x + 15) (x + 13) (undef) (by omega)).trans e13_14
    have e15_15 := eval_same b14 (x + 15) (undef) (by rw [K14.size]; omega)
    generalize b14.put (some (x + 15)) (undef) = b15 at K15 e2_15 e13_15 e15_15 ⊢
    refine guard_no (j := 2) (b := true) (c := false) (d := x + 2) rfl rfl (by rw [K15.size]; omega) e2_15 (by decide) ?_
    show wpList _ _ _ _ (b15.put (some (x + 16)) (undef)) _
    have K16 := K15.put (x + 16) (undef) (by omega)
    have e2_16 := (eval_other b15 (x + 16) (x + 2) (undef) (by omega)).trans e2_15
    have e16_16 := eval_same b15 (x + 16) (undef) (by rw [K15.size]; omega)
    generalize b15.put (some (x + 16)) (undef) = b16 at K16 e2_16 e16_16 ⊢
    refine Fr.step (v := .bool false) rfl (run_pickf e2_16 rfl) ?_
    show wpList _ _ _ _ (b16.put (some (x + 17)) (.bool false)) _
    have K17 := K16.put (x + 17) (.bool false) (by omega)
    have e17_17 := eval_same b16 (x + 17) (.bool false) (by rw [K16.size]; omega)
    generalize b16.put (some (x + 17)) (.bool false) = b17 at K17 e17_17 ⊢
    exact wpList_nil (H _ (fun k hk => K17.low k hk) K17.size K17.defers e17_17)
  | true =>
    rw [hh] at H e2
    simp only [Bool.true_and] at H
    cases kb0 : (r == 9225) with
    | true =>
      rw [kb0] at H
      simp only [Bool.true_or, Bool.or_true, Bool.false_or, Bool.or_false] at H
      refine guard_yes (v := .int .i32 r) (j := 2) (b := true) (d := x + 2) rfl rfl (by rw [K2.size]; omega) e2 (run_mv ((K2.low z (by omega)).trans hv)) ?_
      show wpList _ _ _ _ (b2.put (some (x + 3)) (.int .i32 r)) _
      have K3 := K2.put (x + 3) (.int .i32 r) (by omega)
      have e2_3 := (eval_other b2 (x + 3) (x + 2) (.int .i32 r) (by omega)).trans e2
      have e3_3 := eval_same b2 (x + 3) (.int .i32 r) (by rw [K2.size]; omega)
      generalize b2.put (some (x + 3)) (.int .i32 r) = b3 at K3 e2_3 e3_3 ⊢
      refine guard_yes (v := .bool true) (j := 2) (b := true) (d := x + 2) rfl rfl (by rw [K3.size]; omega) e2_3 (by conv => { rhs; rw [← kb0] }; exact run_eqli (m := r) (n := 9225) Tryd.underlying21 e3_3 rfl) ?_
      show wpList _ _ _ _ (b3.put (some (x + 4)) (.bool true)) _
      have K4 := K3.put (x + 4) (.bool true) (by omega)
      have e2_4 := (eval_other b3 (x + 4) (x + 2) (.bool true) (by omega)).trans e2_3
      have e4_4 := eval_same b3 (x + 4) (.bool true) (by rw [K3.size]; omega)
      generalize b3.put (some (x + 4)) (.bool true) = b4 at K4 e2_4 e4_4 ⊢
      refine guard_yes (v := .bool true) (j := 2) (b := true) (d := x + 2) rfl rfl (by rw [K4.size]; omega) e2_4 (run_mv e4_4) ?_
      show wpList _ _ _ _ (b4.put (some (x + 5)) (.bool true)) _
      have K5 := K4.put (x + 5) (.bool true) (by omega)
      have e2_5 := (eval_other b4 (x + 5) (x + 2) (.bool true) (by omega)).trans e2_4
      have e5_5 := eval_same b4 (x + 5) (.bool true) (by rw [K4.size]; omega)
      generalize b4.put (some (x + 5)) (.bool true) = b5 at K5 e2_5 e5_5 ⊢
      refine guard_no (j := 5) (b := false) (c := true) (d := x + 5) rfl rfl (by rw [K5.size]; omega) e5_5 (by decide) ?_
      show wpList _ _ _ _ (b5.put (some (x + 6)) (undef)) _
      have K6 := K5.put (x + 6) (undef) (by omega)
      have e2_6 := (eval_other b5 (x + 6) (x + 2) (undef) (by omega)).trans e2_5
      have e5_6 := (eval_other b5 (x + 6) (x + 5) (undef) (by omega)).trans e5_5
      have e6_6 := eval_same b5 (x + 6) (undef) (by rw [K5.size]; omega)
      generalize b5.put (some (x + 6)) (undef) = b6 at K6 e2_6 e5_6 e6_6 ⊢
      refine guard_no (j := 5) (b := false) (c := true) (d := x + 5) rfl rfl (by rw [K6.size]; omega) e5_6 (by decide) ?_
      show wpList _ _ _ _ (b6.put (some (x + 7)) (undef)) _
      have K7 := K6.put (x + 7) (undef) (by omega)
      have e2_7 := (eval_other b6 (x + 7) (x + 2) (undef) (by omega)).trans e2_6
      have e5_7 := (eval_other b6 (x + 7) (x + 5) (undef) (by omega)).trans e5_6
      have e7_7 := eval_same b6 (x + 7) (undef) (by rw [K6.size]; omega)
      generalize b6.put (some (x + 7)) (undef) = b7 at K7 e2_7 e5_7 e7_7 ⊢
      refine guard_yes (v := .bool true) (j := 2) (b := true) (d := x + 2) rfl rfl (by rw [K7.size]; omega) e2_7 (run_pickt e5_7 rfl) ?_
      show wpList _ _ _ _ (b7.put (some (x + 8)) (.bool true)) _
      have K8 := K7.put (x + 8) (.bool true) (by omega)
      have e2_8 := (eval_other b7 (x + 8) (x + 2) (.bool true) (by omega)).trans e2_7
      have e8_8 := eval_same b7 (x + 8) (.bool true) (by rw [K7.size]; omega)
      generalize b7.put (some (x + 8)) (.bool true) = b8 at K8 e2_8 e8_8 ⊢
      refine guard_yes (v := .bool true) (j := 2) (b := true) (d := x + 2) rfl rfl (by rw [K8.size]; omega) e2_8 (run_mv e8_8) ?_
      show wpList _ _ _ _ (b8.put (some (x + 9)) (.bool true)) _
      have K9 := K8.put (x + 9) (.bool true) (by omega)
      have e2_9 := (eval_other b8 (x + 9) (x + 2) (.bool true) (by omega)).trans e2_8
      have e9_9 := eval_same b8 (x + 9) (.bool true) (by rw [K8.size]; omega)
      generalize b8.put (some (x + 9)) (.bool true) = b9 at K9 e2_9 e9_9 ⊢
      refine guard_no (j := 9) (b := false) (c := true) (d := x + 9) rfl rfl (by rw [K9.size]; omega) e9_9 (by decide) ?_
      show wpList _ _ _ _ (b9.put (some (x + 10)) (undef)) _
      have K10 := K9.put (x + 10) (undef) (by omega)
      have e2_10 := (eval_other b9 (x + 10) (x + 2) (undef) (by omega)).trans e2_9
      have e9_10 := (eval_other b9 (x + 10) (x + 9) (undef) (by omega)).trans e9_9
      have e10_10 := eval_same b9 (x + 10) (undef) (by rw [K9.size]; omega)
      generalize b9.put (some (x + 10)) (undef) = b10 at K10 e2_10 e9_10 e10_10 ⊢
      refine guard_no (j := 9) (b := false) (c := true) (d := x + 9) rfl rfl (by rw [K10.size]; omega) e9_10 (by decide) ?_
      show wpList _ _ _ _ (b10.put (some (x + 11)) (undef)) _
      have K11 := K10.put (x + 11) (undef) (by omega)
      have e2_11 := (eval_other b10 (x + 11) (x + 2) (undef) (by omega)).trans e2_10
      have e9_11 := (eval_other b10 (x + 11) (x + 9) (undef) (by omega)).trans e9_10
      have e11_11 := eval_same b10 (x + 11) (undef) (by rw [K10.size]; omega)
      generalize b10.put (some (x + 11)) (undef) = b11 at K11 e2_11 e9_11 e11_11 ⊢
      refine guard_yes (v := .bool true) (j := 2) (b := true) (d := x + 2) rfl rfl (by rw [K11.size]; omega) e2_11 (run_pickt e9_11 rfl) ?_
      show wpList _ _ _ _ (b11.put (some (x + 12)) (.bool true)) _
      have K12 := K11.put (x + 12) (.bool true) (by omega)
      have e2_12 := (eval_other b11 (x + 12) (x + 2) (.bool true) (by omega)).trans e2_11
      have e12_12 := eval_same b11 (x + 12) (.bool true) (by rw [K11.size]; omega)
      generalize b11.put (some (x + 12)) (.bool true) = b12 at K12 e2_12 e12_12 ⊢
      refine guard_yes (v := .bool true) (j := 2) (b := true) (d := x + 2) rfl rfl (by rw [K12.size]; omega) e2_12 (run_mv e12_12) ?_
      show wpList _ _ _ _ (b12.put (some (x + 13)) (.bool true)) _
      have K13 := K12.put (x + 13) (.bool true) (by omega)
      have e2_13 := (eval_other b12 (x + 13) (x + 2) (.bool true) (by omega)).trans e2_12
      have e13_13 := eval_same b12 (x + 13) (.bool true) (by rw [K12.size]; omega)
      generalize b12.put (some (x + 13)) (.bool true) = b13 at K13 e2_13 e13_13 ⊢
      refine guard_no (j := 13) (b := false) (c := true) (d := x + 13) rfl rfl (by rw [K13.size]; omega) e13_13 (by decide) ?_
      show wpList _ _ _ _ (b13.put (some (x + 14)) (undef)) _
      have K14 := K13.put (x + 14) (undef) (by omega)
      have e2_14 := (eval_other b13 (x + 14) (x + 2) (undef) (by omega)).trans e2_13
      have e13_14 := (eval_other b13 (x + 14) (x + 13) (undef) (by omega)).trans e13_13
      have e14_14 := eval_same b13 (x + 14) (undef) (by rw [K13.size]; omega)
      generalize b13.put (some (x + 14)) (undef) = b14 at K14 e2_14 e13_14 e14_14 ⊢
      refine guard_no (j := 13) (b := false) (c := true) (d := x + 13) rfl rfl (by rw [K14.size]; omega) e13_14 (by decide) ?_
      show wpList _ _ _ _ (b14.put (some (x + 15)) (undef)) _
      have K15 := K14.put (x + 15) (undef) (by omega)
      have e2_15 := (eval_other b14 (x + 15) (x + 2) (undef) (by omega)).trans e2_14
      have e13_15 := (eval_other b14 (x + 15) (x + 13) (undef) (by omega)).trans e13_14
      have e15_15 := eval_same b14 (x + 15) (undef) (by rw [K14.size]; omega)
      generalize b14.put (some (x + 15)) (undef) = b15 at K15 e2_15 e13_15 e15_15 ⊢
      refine guard_yes (v := .bool true) (j := 2) (b := true) (d := x + 2) rfl rfl (by rw [K15.size]; omega) e2_15 (run_pickt e13_15 rfl) ?_
      show wpList _ _ _ _ (b15.put (some (x + 16)) (.bool true)) _
      have K16 := K15.put (x + 16) (.bool true) (by omega)
      have e2_16 := (eval_other b15 (x + 16) (x + 2) (.bool true) (by omega)).trans e2_15
      have e16_16 := eval_same b15 (x + 16) (.bool true) (by rw [K15.size]; omega)
      generalize b15.put (some (x + 16)) (.bool true) = b16 at K16 e2_16 e16_16 ⊢
      refine Fr.step (v := .bool true) rfl (run_pickt e2_16 e16_16) ?_
      show wpList _ _ _ _ (b16.put (some (x + 17)) (.bool true)) _
      have K17 := K16.put (x + 17) (.bool true) (by omega)
      have e17_17 := eval_same b16 (x + 17) (.bool true) (by rw [K16.size]; omega)
      generalize b16.put (some (x + 17)) (.bool true) = b17 at K17 e17_17 ⊢
      exact wpList_nil (H _ (fun k hk => K17.low k hk) K17.size K17.defers e17_17)
    | false =>
      cases kb1 : (r == 9226) with
      | true =>
        rw [kb0, kb1] at H
        simp only [Bool.true_or, Bool.or_true, Bool.false_or, Bool.or_false] at H
        refine guard_yes (v := .int .i32 r) (j := 2) (b := true) (d := x + 2) rfl rfl (by rw [K2.size]; omega) e2 (run_mv ((K2.low z (by omega)).trans hv)) ?_
        show wpList _ _ _ _ (b2.put (some (x + 3)) (.int .i32 r)) _
        have K3 := K2.put (x + 3) (.int .i32 r) (by omega)
        have e2_3 := (eval_other b2 (x + 3) (x + 2) (.int .i32 r) (by omega)).trans e2
        have e3_3 := eval_same b2 (x + 3) (.int .i32 r) (by rw [K2.size]; omega)
        generalize b2.put (some (x + 3)) (.int .i32 r) = b3 at K3 e2_3 e3_3 ⊢
        refine guard_yes (v := .bool false) (j := 2) (b := true) (d := x + 2) rfl rfl (by rw [K3.size]; omega) e2_3 (by conv => { rhs; rw [← kb0] }; exact run_eqli (m := r) (n := 9225) Tryd.underlying21 e3_3 rfl) ?_
        show wpList _ _ _ _ (b3.put (some (x + 4)) (.bool false)) _
        have K4 := K3.put (x + 4) (.bool false) (by omega)
        have e2_4 := (eval_other b3 (x + 4) (x + 2) (.bool false) (by omega)).trans e2_3
        have e4_4 := eval_same b3 (x + 4) (.bool false) (by rw [K3.size]; omega)
        generalize b3.put (some (x + 4)) (.bool false) = b4 at K4 e2_4 e4_4 ⊢
        refine guard_yes (v := .bool false) (j := 2) (b := true) (d := x + 2) rfl rfl (by rw [K4.size]; omega) e2_4 (run_mv e4_4) ?_
        show wpList _ _ _ _ (b4.put (some (x + 5)) (.bool false)) _
        have K5 := K4.put (x + 5) (.bool false) (by omega)
        have e2_5 := (eval_other b4 (x + 5) (x + 2) (.bool false) (by omega)).trans e2_4
        have e5_5 := eval_same b4 (x + 5) (.bool false) (by rw [K4.size]; omega)
        generalize b4.put (some (x + 5)) (.bool false) = b5 at K5 e2_5 e5_5 ⊢
        refine guard_yes (v := .int .i32 r) (j := 5) (b := false) (d := x + 5) rfl rfl (by rw [K5.size]; omega) e5_5 (run_mv ((K5.low z (by omega)).trans hv)) ?_
        show wpList _ _ _ _ (b5.put (some (x + 6)) (.int .i32 r)) _
        have K6 := K5.put (x + 6) (.int .i32 r) (by omega)
        have e2_6 := (eval_other b5 (x + 6) (x + 2) (.int .i32 r) (by omega)).trans e2_5
        have e5_6 := (eval_other b5 (x + 6) (x + 5) (.int .i32 r) (by omega)).trans e5_5
        have e6_6 := eval_same b5 (x + 6) (.int .i32 r) (by rw [K5.size]; omega)
        generalize b5.put (some (x + 6)) (.int .i32 r) = b6 at K6 e2_6 e5_6 e6_6 ⊢
        refine guard_yes (v := .bool true) (j := 5) (b := false) (d := x + 5) rfl rfl (by rw [K6.size]; omega) e5_6 (by conv => { rhs; rw [← kb1] }; exact run_eqli (m := r) (n := 9226) Tryd.underlying21 e6_6 rfl) ?_
        show wpList _ _ _ _ (b6.put (some (x + 7)) (.bool true)) _
        have K7 := K6.put (x + 7) (.bool true) (by omega)
        have e2_7 := (eval_other b6 (x + 7) (x + 2) (.bool true) (by omega)).trans e2_6
        have e5_7 := (eval_other b6 (x + 7) (x + 5) (.bool true) (by omega)).trans e5_6
        have e7_7 := eval_same b6 (x + 7) (.bool true) (by rw [K6.size]; omega)
        generalize b6.put (some (x + 7)) (.bool true) = b7 at K7 e2_7 e5_7 e7_7 ⊢
        refine guard_yes (v := .bool true) (j := 2) (b := true) (d := x + 2) rfl rfl (by rw [K7.size]; omega) e2_7 (run_pickf e5_7 e7_7) ?_
        show wpList _ _ _ _ (b7.put (some (x + 8)) (.bool true)) _
        have K8 := K7.put (x + 8) (.bool true) (by omega)
        have e2_8 := (eval_other b7 (x + 8) (x + 2) (.bool true) (by omega)).trans e2_7
        have e8_8 := eval_same b7 (x + 8) (.bool true) (by rw [K7.size]; omega)
        generalize b7.put (some (x + 8)) (.bool true) = b8 at K8 e2_8 e8_8 ⊢
        refine guard_yes (v := .bool true) (j := 2) (b := true) (d := x + 2) rfl rfl (by rw [K8.size]; omega) e2_8 (run_mv e8_8) ?_
        show wpList _ _ _ _ (b8.put (some (x + 9)) (.bool true)) _
        have K9 := K8.put (x + 9) (.bool true) (by omega)
        have e2_9 := (eval_other b8 (x + 9) (x + 2) (.bool true) (by omega)).trans e2_8
        have e9_9 := eval_same b8 (x + 9) (.bool true) (by rw [K8.size]; omega)
        generalize b8.put (some (x + 9)) (.bool true) = b9 at K9 e2_9 e9_9 ⊢
        refine guard_no (j := 9) (b := false) (c := true) (d := x + 9) rfl rfl (by rw [K9.size]; omega) e9_9 (by decide) ?_
        show wpList _ _ _ _ (b9.put (some (x + 10)) (undef)) _
        have K10 := K9.put (x + 10) (undef) (by omega)
        have e2_10 := (eval_other b9 (x + 10) (x + 2) (undef) (by omega)).trans e2_9
        have e9_10 := (eval_other b9 (x + 10) (x + 9) (undef) (by omega)).trans e9_9
        have e10_10 := eval_same b9 (x + 10) (undef) (by rw [K9.size]; omega)
        generalize b9.put (some (x + 10)) (undef) = b10 at K10 e2_10 e9_10 e10_10 ⊢
        refine guard_no (j := 9) (b := false) (c := true) (d := x + 9) rfl rfl (by rw [K10.size]; omega) e9_10 (by decide) ?_
        show wpList _ _ _ _ (b10.put (some (x + 11)) (undef)) _
        have K11 := K10.put (x + 11) (undef) (by omega)
        have e2_11 := (eval_other b10 (x + 11) (x + 2) (undef) (by omega)).trans e2_10
        have e9_11 := (eval_other b10 (x + 11) (x + 9) (undef) (by omega)).trans e9_10
        have e11_11 := eval_same b10 (x + 11) (undef) (by rw [K10.size]; omega)
        generalize b10.put (some (x + 11)) (undef) = b11 at K11 e2_11 e9_11 e11_11 ⊢
        refine guard_yes (v := .bool true) (j := 2) (b := true) (d := x + 2) rfl rfl (by rw [K11.size]; omega) e2_11 (run_pickt e9_11 rfl) ?_
        show wpList _ _ _ _ (b11.put (some (x + 12)) (.bool true)) _
        have K12 := K11.put (x + 12) (.bool true) (by omega)
        have e2_12 := (eval_other b11 (x + 12) (x + 2) (.bool true) (by omega)).trans e2_11
        have e12_12 := eval_same b11 (x + 12) (.bool true) (by rw [K11.size]; omega)
        generalize b11.put (some (x + 12)) (.bool true) = b12 at K12 e2_12 e12_12 ⊢
        refine guard_yes (v := .bool true) (j := 2) (b := true) (d := x + 2) rfl rfl (by rw [K12.size]; omega) e2_12 (run_mv e12_12) ?_
        show wpList _ _ _ _ (b12.put (some (x + 13)) (.bool true)) _
        have K13 := K12.put (x + 13) (.bool true) (by omega)
        have e2_13 := (eval_other b12 (x + 13) (x + 2) (.bool true) (by omega)).trans e2_12
        have e13_13 := eval_same b12 (x + 13) (.bool true) (by rw [K12.size]; omega)
        generalize b12.put (some (x + 13)) (.bool true) = b13 at K13 e2_13 e13_13 ⊢
        refine guard_no (j := 13) (b := false) (c := true) (d := x + 13) rfl rfl (by rw [K13.size]; omega) e13_13 (by decide) ?_
        show wpList _ _ _ _ (b13.put (some (x + 14)) (undef)) _
        have K14 := K13.put (x + 14) (undef) (by omega)
        have e2_14 := (eval_other b13 (x + 14) (x + 2) (undef) (by omega)).trans e2_13
        have e13_14 := (eval_other b13 (x + 14) (x + 13) (undef) (by omega)).trans e13_13
        have e14_14 := eval_same b13 (x + 14) (undef) (by rw [K13.size]; omega)
        generalize b13.put (some (x + 14)) (undef) = b14 at K14 e2_14 e13_14 e14_14 ⊢
        refine guard_no (j := 13) (b := false) (c := true) (d := x + 13) rfl rfl (by rw [K14.size]; omega) e13_14 (by decide) ?_
        show wpList _ _ _ _ (b14.put (some (x + 15)) (undef)) _
        have K15 := K14.put (x + 15) (undef) (by omega)
        have e2_15 := (eval_other b14 (x + 15) (x + 2) (undef) (by omega)).trans e2_14
        have e13_15 := (eval_other b14 (x + 15) (x + 13) (undef) (by omega)).trans e13_14
        have e15_15 := eval_same b14 (x + 15) (undef) (by rw [K14.size]; omega)
        generalize b14.put (some (x + 15)) (undef) = b15 at K15 e2_15 e13_15 e15_15 ⊢
        refine guard_yes (v := .bool true) (j := 2) (b := true) (d := x + 2) rfl rfl (by rw [K15.size]; omega) e2_15 (run_pickt e13_15 rfl) ?_
        show wpList _ _ _ _ (b15.put (some (x + 16)) (.bool true)) _
        have K16 := K15.put (x + 16) (.bool true) (by omega)
        have e2_16 := (eval_other b15 (x + 16) (x + 2) (.bool true) (by omega)).trans e2_15
        have e16_16 := eval_same b15 (x + 16) (.bool true) (by rw [K15.size]; omega)
        generalize b15.put (some (x + 16)) (.bool true) = b16 at K16 e2_16 e16_16 ⊢
        refine Fr.step (v := .bool true) rfl (run_pickt e2_16 e16_16) ?_
        show wpList _ _ _ _ (b16.put (some (x + 17)) (.bool true)) _
        have K17 := K16.put (x + 17) (.bool true) (by omega)
        have e17_17 := eval_same b16 (x + 17) (.bool true) (by rw [K16.size]; omega)
        generalize b16.put (some (x + 17)) (.bool true) = b17 at K17 e17_17 ⊢
        exact wpList_nil (H _ (fun k hk => K17.low k hk) K17.size K17.defers e17_17)
      | false =>
        cases kb2 : (r == 9227) with
        | true =>
          rw [kb0, kb1, kb2] at H
          simp only [Bool.true_or, Bool.or_true, Bool.false_or, Bool.or_false] at H
          refine guard_yes (v := .int .i32 r) (j := 2) (b := true) (d := x + 2) rfl rfl (by rw [K2.size]; omega) e2 (run_mv ((K2.low z (by omega)).trans hv)) ?_
          show wpList _ _ _ _ (b2.put (some (x + 3)) (.int .i32 r)) _
          have K3 := K2.put (x + 3) (.int .i32 r) (by omega)
          have e2_3 := (eval_other b2 (x + 3) (x + 2) (.int .i32 r) (by omega)).trans e2
          have e3_3 := eval_same b2 (x + 3) (.int .i32 r) (by rw [K2.size]; omega)
          generalize b2.put (some (x + 3)) (.int .i32 r) = b3 at K3 e2_3 e3_3 ⊢
          refine guard_yes (v := .bool false) (j := 2) (b := true) (d := x + 2) rfl rfl (by rw [K3.size]; omega) e2_3 (by conv => { rhs; rw [← kb0] }; exact run_eqli (m := r) (n := 9225) Tryd.underlying21 e3_3 rfl) ?_
          show wpList _ _ _ _ (b3.put (some (x + 4)) (.bool false)) _
          have K4 := K3.put (x + 4) (.bool false) (by omega)
          have e2_4 := (eval_other b3 (x + 4) (x + 2) (.bool false) (by omega)).trans e2_3
          have e4_4 := eval_same b3 (x + 4) (.bool false) (by rw [K3.size]; omega)
          generalize b3.put (some (x + 4)) (.bool false) = b4 at K4 e2_4 e4_4 ⊢
          refine guard_yes (v := .bool false) (j := 2) (b := true) (d := x + 2) rfl rfl (by rw [K4.size]; omega) e2_4 (run_mv e4_4) ?_
          show wpList _ _ _ _ (b4.put (some (x + 5)) (.bool false)) _
          have K5 := K4.put (x + 5) (.bool false) (by omega)
          have e2_5 := (eval_other b4 (x + 5) (x + 2) (.bool false) (by omega)).trans e2_4
          have e5_5 := eval_same b4 (x + 5) (.bool false) (by rw [K4.size]; omega)
          generalize b4.put (some (x + 5)) (.bool false) = b5 at K5 e2_5 e5_5 ⊢
          refine guard_yes (v := .int .i32 r) (j := 5) (b := false) (d := x + 5) rfl rfl (by rw [K5.size]; omega) e5_5 (run_mv ((K5.low z (by omega)).trans hv)) ?_
          show wpList _ _ _ _ (b5.put (some (x + 6)) (.int .i32 r)) _
          have K6 := K5.put (x + 6) (.int .i32 r) (by omega)
          have e2_6 := (eval_other b5 (x + 6) (x + 2) (.int .i32 r) (by omega)).trans e2_5
          have e5_6 := (eval_other b5 (x + 6) (x + 5) (.int .i32 r) (by omega)).trans e5_5
          have e6_6 := eval_same b5 (x + 6) (.int .i32 r) (by rw [K5.size]; omega)
          generalize b5.put (some (x + 6)) (.int .i32 r) = b6 at K6 e2_6 e5_6 e6_6 ⊢
          refine guard_yes (v := .bool false) (j := 5) (b := false) (d := x + 5) rfl rfl (by rw [K6.size]; omega) e5_6 (by conv => { rhs; rw [← kb1] }; exact run_eqli (m := r) (n := 9226) Tryd.underlying21 e6_6 rfl) ?_
          show wpList _ _ _ _ (b6.put (some (x + 7)) (.bool false)) _
          have K7 := K6.put (x + 7) (.bool false) (by omega)
          have e2_7 := (eval_other b6 (x + 7) (x + 2) (.bool false) (by omega)).trans e2_6
          have e5_7 := (eval_other b6 (x + 7) (x + 5) (.bool false) (by omega)).trans e5_6
          have e7_7 := eval_same b6 (x + 7) (.bool false) (by rw [K6.size]; omega)
          generalize b6.put (some (x + 7)) (.bool false) = b7 at K7 e2_7 e5_7 e7_7 ⊢
          refine guard_yes (v := .bool false) (j := 2) (b := true) (d := x + 2) rfl rfl (by rw [K7.size]; omega) e2_7 (run_pickf e5_7 e7_7) ?_
          show wpList _ _ _ _ (b7.put (some (x + 8)) (.bool false)) _
          have K8 := K7.put (x + 8) (.bool false) (by omega)
          have e2_8 := (eval_other b7 (x + 8) (x + 2) (.bool false) (by omega)).trans e2_7
          have e8_8 := eval_same b7 (x + 8) (.bool false) (by rw [K7.size]; omega)
          generalize b7.put (some (x + 8)) (.bool false) = b8 at K8 e2_8 e8_8 ⊢
          refine guard_yes (v := .bool false) (j := 2) (b := true) (d := x + 2) rfl rfl (by rw [K8.size]; omega) e2_8 (run_mv e8_8) ?_
          show wpList _ _ _ _ (b8.put (some (x + 9)) (.bool false)) _
          have K9 := K8.put (x + 9) (.bool false) (by omega)
          have e2_9 := (eval_other b8 (x + 9) (x + 2) (.bool false) (by omega)).trans e2_8
          have e9_9 := eval_same b8 (x + 9) (.bool false) (by rw [K8.size]; omega)
          generalize b8.put (some (x + 9)) (.bool false) = b9 at K9 e2_9 e9_9 ⊢
          refine guard_yes (v := .int .i32 r) (j := 9) (b := false) (d := x + 9) rfl rfl (by rw [K9.size]; omega) e9_9 (run_mv ((K9.low z (by omega)).trans hv)) ?_
          show wpList _ _ _ _ (b9.put (some (x + 10)) (.int .i32 r)) _
          have K10 := K9.put (x + 10) (.int .i32 r) (by omega)
          have e2_10 := (eval_other b9 (x + 10) (x + 2) (.int .i32 r) (by omega)).trans e2_9
          have e9_10 := (eval_other b9 (x + 10) (x + 9) (.int .i32 r) (by omega)).trans e9_9
          have e10_10 := eval_same b9 (x + 10) (.int .i32 r) (by rw [K9.size]; omega)
          generalize b9.put (some (x + 10)) (.int .i32 r) = b10 at K10 e2_10 e9_10 e10_10 ⊢
          refine guard_yes (v := .bool true) (j := 9) (b := false) (d := x + 9) rfl rfl (by rw [K10.size]; omega) e9_10 (by conv => { rhs; rw [← kb2] }; exact run_eqli (m := r) (n := 9227) Tryd.underlying21 e10_10 rfl) ?_
          show wpList _ _ _ _ (b10.put (some (x + 11)) (.bool true)) _
          have K11 := K10.put (x + 11) (.bool true) (by omega)
          have e2_11 := (eval_other b10 (x + 11) (x + 2) (.bool true) (by omega)).trans e2_10
          have e9_11 := (eval_other b10 (x + 11) (x + 9) (.bool true) (by omega)).trans e9_10
          have e11_11 := eval_same b10 (x + 11) (.bool true) (by rw [K10.size]; omega)
          generalize b10.put (some (x + 11)) (.bool true) = b11 at K11 e2_11 e9_11 e11_11 ⊢
          refine guard_yes (v := .bool true) (j := 2) (b := true) (d := x + 2) rfl rfl (by rw [K11.size]; omega) e2_11 (run_pickf e9_11 e11_11) ?_
          show wpList _ _ _ _ (b11.put (some (x + 12)) (.bool true)) _
          have K12 := K11.put (x + 12) (.bool true) (by omega)
          have e2_12 := (eval_other b11 (x + 12) (x + 2) (.bool true) (by omega)).trans e2_11
          have e12_12 := eval_same b11 (x + 12) (.bool true) (by rw [K11.size]; omega)
          generalize b11.put (some (x + 12)) (.bool true) = b12 at K12 e2_12 e12_12 ⊢
          refine guard_yes (v := .bool true) (j := 2) (b := true) (d := x + 2) rfl rfl (by rw [K12.size]; omega) e2_12 (run_mv e12_12) ?_
          show wpList _ _ _ _ (b12.put (some (x + 13)) (.bool true)) _
          have K13 := K12.put (x + 13) (.bool true) (by omega)
          have e2_13 := (eval_other b12 (x + 13) (x + 2) (.bool true) (by omega)).trans e2_12
          have e13_13 := eval_same b12 (x + 13) (.bool true) (by rw [K12.size]; omega)
          generalize b12.put (some (x + 13)) (.bool true) = b13 at K13 e2_13 e13_13 ⊢
          refine guard_no (j := 13) (b := false) (c := true) (d := x + 13) rfl rfl (by rw [K13.size]; omega) e13_13 (by decide) ?_
          show wpList _ _ _ _ (b13.put (some (x + 14)) (undef)) _
          have K14 := K13.put (x + 14) (undef) (by omega)
          have e2_14 := (eval_other b13 (x + 14) (x + 2) (undef) (by omega)).trans e2_13
          have e13_14 := (eval_other b13 (x + 14) (x + 13) (undef) (by omega)).trans e13_13
          have e14_14 := eval_same b13 (x + 14) (undef) (by rw [K13.size]; omega)
          generalize b13.put (some (x + 14)) (undef) = b14 at K14 e2_14 e13_14 e14_14 ⊢
          refine guard_no (j := 13) (b := false) (c := true) (d := x + 13) rfl rfl (by rw [K14.size]; omega) e13_14 (by decide) ?_
          show wpList _ _ _ _ (b14.put (some (x + 15)) (undef)) _
          have K15 := K14.put (x + 15) (undef) (by omega)
          have e2_15 := (eval_other b14 (x + 15) (x + 2) (undef) (by omega)).trans e2_14
          have e13_15 := (eval_other b14 (x + 15) (x + 13) (undef) (by omega)).trans e13_14
          have e15_15 := eval_same b14 (x + 15) (undef) (by rw [K14.size]; omega)
          generalize b14.put (some (x + 15)) (undef) = b15 at K15 e2_15 e13_15 e15_15 ⊢
          refine guard_yes (v := .bool true) (j := 2) (b := true) (d := x + 2) rfl rfl (by rw [K15.size]; omega) e2_15 (run_pickt e13_15 rfl) ?_
          show wpList _ _ _ _ (b15.put (some (x + 16)) (.bool true)) _
          have K16 := K15.put (x + 16) (.bool true) (by omega)
          have e2_16 := (eval_other b15 (x + 16) (x + 2) (.bool true) (by omega)).trans e2_15
          have e16_16 := eval_same b15 (x + 16) (.bool true) (by rw [K15.size]; omega)
          generalize b15.put (some (x + 16)) (.bool true) = b16 at K16 e2_16 e16_16 ⊢
          refine Fr.step (v := .bool true) rfl (run_pickt e2_16 e16_16) ?_
          show wpList _ _ _ _ (b16.put (some (x + 17)) (.bool true)) _
          have K17 := K16.put (x + 17) (.bool true) (by omega)
          have e17_17 := eval_same b16 (x + 17) (.bool true) (by rw [K16.size]; omega)
          generalize b16.put (some (x + 17)) (.bool true) = b17 at K17 e17_17 ⊢
          exact wpList_nil (H _ (fun k hk => K17.low k hk) K17.size K17.defers e17_17)
        | false =>
          cases kb3 : (r == 9229) with
          | true =>
            rw [kb0, kb1, kb2, kb3] at H
            simp only [Bool.true_or, Bool.or_true, Bool.false_or, Bool.or_false] at H
            refine guard_yes (v := .int .i32 r) (j := 2) (b := true) (d := x + 2) rfl rfl (by rw [K2.size]; omega) e2 (run_mv ((K2.low z (by omega)).trans hv)) ?_
            show wpList _ _ _ _ (b2.put (some (x + 3)) (.int .i32 r)) _
            have K3 := K2.put (x + 3) (.int .i32 r) (by omega)
            have e2_3 := (eval_other b2 (x + 3) (x + 2) (.int .i32 r) (by omega)).trans e2
            have e3_3 := eval_same b2 (x + 3) (.int .i32 r) (by rw [K2.size]; omega)
            generalize b2.put (some (x + 3)) (.int .i32 r) = b3 at K3 e2_3 e3_3 ⊢
            refine guard_yes (v := .bool false) (j := 2) (b := true) (d := x + 2) rfl rfl (by rw [K3.size]; omega) e2_3 (by conv => { rhs; rw [← kb0] }; exact run_eqli (m := r) (n := 9225) Tryd.underlying21 e3_3 rfl) ?_
            show wpList _ _ _ _ (b3.put (some (x + 4)) (.bool false)) _
            have K4 := K3.put (x + 4) (.bool false) (by omega)
            have e2_4 := (eval_other b3 (x + 4) (x + 2) (.bool false) (by omega)).trans e2_3
            have e4_4 := eval_same b3 (x + 4) (.bool false) (by rw [K3.size]; omega)
            generalize b3.put (some (x + 4)) (.bool false) = b4 at K4 e2_4 e4_4 ⊢
            refine guard_yes (v := .bool false) (j := 2) (b := true) (d := x + 2) rfl rfl (by rw [K4.size]; omega) e2_4 (run_mv e4_4) ?_
            show wpList _ _ _ _ (b4.put (some (x + 5)) (.bool false)) _
            have K5 := K4.put (x + 5) (.bool false) (by omega)
            have e2_5 := (eval_other b4 (x + 5) (x + 2) (.bool false) (by omega)).trans e2_4
            have e5_5 := eval_same b4 (x + 5) (.bool false) (by rw [K4.size]; omega)
            generalize b4.put (some (x + 5)) (.bool false) = b5 at K5 e2_5 e5_5 ⊢
            refine guard_yes (v := .int .i32 r) (j := 5) (b := false) (d := x + 5) rfl rfl (by rw [K5.size]; omega) e5_5 (run_mv ((K5.low z (by omega)).trans hv)) ?_
            show wpList _ _ _ _ (b5.put (some (x + 6)) (.int .i32 r)) _
            have K6 := K5.put (x + 6) (.int .i32 r) (by omega)
            have e2_6 := (eval_other b5 (x + 6) (x + 2) (.int .i32 r) (by omega)).trans e2_5
            have e5_6 := (eval_other b5 (x + 6) (x + 5) (.int .i32 r) (by omega)).trans e5_5
            have e6_6 := eval_same b5 (x + 6) (.int .i32 r) (by rw [K5.size]; omega)
            generalize b5.put (some (x + 6)) (.int .i32 r) = b6 at K6 e2_6 e5_6 e6_6 ⊢
            refine guard_yes (v := .bool false) (j := 5) (b := false) (d := x + 5) rfl rfl (by rw [K6.size]; omega) e5_6 (by conv => { rhs; rw [← kb1] }; exact run_eqli (m := r) (n := 9226) Tryd.underlying21 e6_6 rfl) ?_
            show wpList _ _ _ _ (b6.put (some (x + 7)) (.bool false)) _
            have K7 := K6.put (x + 7) (.bool false) (by omega)
            have e2_7 := (eval_other b6 (x + 7) (x + 2) (.bool false) (by omega)).trans e2_6
            have e5_7 := (eval_other b6 (x + 7) (x + 5) (.bool false) (by omega)).trans e5_6
            have e7_7 := eval_same b6 (x + 7) (.bool false) (by rw [K6.size]; omega)
            generalize b6.put (some (x + 7)) (.bool false) = b7 at K7 e2_7 e5_7 e7_7 ⊢
            refine guard_yes (v := .bool false) (j := 2) (b := true) (d := x + 2) rfl rfl (by rw [K7.size]; omega) e2_7 (run_pickf e5_7 e7_7) ?_
            show wpList _ _ _ _ (b7.put (some (x + 8)) (.bool false)) _
            have K8 := K7.put (x + 8) (.bool false) (by omega)
            have e2_8 := (eval_other b7 (x + 8) (x + 2) (.bool false) (by omega)).trans e2_7
            have e8_8 := eval_same b7 (x + 8) (.bool false) (by rw [K7.size]; omega)
            generalize b7.put (some (x + 8)) (.bool false) = b8 at K8 e2_8 e8_8 ⊢
            refine guard_yes (v := .bool false) (j := 2) (b := true) (d := x + 2) rfl rfl (by rw [K8.size]; omega) e2_8 (run_mv e8_8) ?_
            show wpList _ _ _ _ (b8.put (some (x + 9)) (.bool false)) _
            have K9 := K8.put (x + 9) (.bool false) (by omega)
            have e2_9 := (eval_other b8 (x + 9) (x + 2) (.bool false) (by omega)).trans e2_8
            have e9_9 := eval_same b8 (x + 9) (.bool false) (by rw [K8.size]; omega)
            generalize b8.put (some (x + 9)) (.bool false) = b9 at K9 e2_9 e9_9 ⊢
            refine guard_yes (v := .int .i32 r) (j := 9) (b := false) (d := x + 9) rfl rfl (by rw [K9.size]; omega) e9_9 (run_mv ((K9.low z (by omega)).trans hv)) ?_
            show wpList _ _ _ _ (b9.put (some (x + 10)) (.int .i32 r)) _
            have K10 := K9.put (x + 10) (.int .i32 r) (by omega)
            have e2_10 := (eval_other b9 (x + 10) (x + 2) (.int .i32 r) (by omega)).trans e2_9
            have e9_10 := (eval_other b9 (x + 10) (x + 9) (.int .i32 r) (by omega)).trans e9_9
            have e10_10 := eval_same b9 (x + 10) (.int .i32 r) (by rw [K9.size]; omega)
            generalize b9.put (some (x + 10)) (.int .i32 r) = b10 at K10 e2_10 e9_10 e10_10 ⊢
            refine guard_yes (v := .bool false) (j := 9) (b := false) (d := x + 9) rfl rfl (by rw [K10.size]; omega) e9_10 (by conv => { rhs; rw [← kb2] }; exact run_eqli (m := r) (n := 9227) Tryd.underlying21 e10_10 rfl) ?_
            show wpList _ _ _ _ (b10.put (some (x + 11)) (.bool false)) _
            have K11 := K10.put (x + 11) (.bool false) (by omega)
            have e2_11 := (eval_other b10 (x + 11) (x + 2) (.bool false) (by omega)).trans e2_10
            have e9_11 := (eval_other b10 (x + 11) (x + 9) (.bool false) (by omega)).trans e9_10
            have e11_11 := eval_same b10 (x + 11) (.bool false) (by rw [K10.size]; omega)
            generalize b10.put (some (x + 11)) (.bool false) = b11 at K11 e2_11 e9_11 e11_11 ⊢
            refine guard_yes (v := .bool false) (j := 2) (b := true) (d := x + 2) rfl rfl (by rw [K11.size]; omega) e2_11 (run_pickf e9_11 e11_11) ?_
            show wpList _ _ _ _ (b11.put (some (x + 12)) (.bool false)) _
            have K12 := K11.put (x + 12) (.bool false) (by omega)
            have e2_12 := (eval_other b11 (x + 12) (x + 2) (.bool false) (by omega)).trans e2_11
            have e12_12 := eval_same b11 (x + 12) (.bool false) (by rw [K11.size]; omega)
            generalize b11.put (some (x + 12)) (.bool false) = b12 at K12 e2_12 e12_12 ⊢
            refine guard_yes (v := .bool false) (j := 2) (b := true) (d := x + 2) rfl rfl (by rw [K12.size]; omega) e2_12 (run_mv e12_12) ?_
            show wpList _ _ _ _ (b12.put (some (x + 13)) (.bool false)) _
            have K13 := K12.put (x + 13) (.bool false) (by omega)
            have e2_13 := (eval_other b12 (x + 13) (x + 2) (.bool false) (by omega)).trans e2_12
            have e13_13 := eval_same b12 (x + 13) (.bool false) (by rw [K12.size]; omega)
            generalize b12.put (some (x + 13)) (.bool false) = b13 at K13 e2_13 e13_13 ⊢
            refine guard_yes (v := .int .i32 r) (j := 13) (b := false) (d := x + 13) rfl rfl (by rw [K13.size]; omega) e13_13 (run_mv ((K13.low z (by omega)).trans hv)) ?_
            show wpList _ _ _ _ (b13.put (some (x + 14)) (.int .i32 r)) _
            have K14 := K13.put (x + 14) (.int .i32 r) (by omega)
            have e2_14 := (eval_other b13 (x + 14) (x + 2) (.int .i32 r) (by omega)).trans e2_13
            have e13_14 := (eval_other b13 (x + 14) (x + 13) (.int .i32 r) (by omega)).trans e13_13
            have e14_14 := eval_same b13 (x + 14) (.int .i32 r) (by rw [K13.size]; omega)
            generalize b13.put (some (x + 14)) (.int .i32 r) = b14 at K14 e2_14 e13_14 e14_14 ⊢
            refine guard_yes (v := .bool true) (j := 13) (b := false) (d := x + 13) rfl rfl (by rw [K14.size]; omega) e13_14 (by conv => { rhs; rw [← kb3] }; exact run_eqli (m := r) (n := 9229) Tryd.underlying21 e14_14 rfl) ?_
            show wpList _ _ _ _ (b14.put (some (x + 15)) (.bool true)) _
            have K15 := K14.put (x + 15) (.bool true) (by omega)
            have e2_15 := (eval_other b14 (x + 15) (x + 2) (.bool true) (by omega)).trans e2_14
            have e13_15 := (eval_other b14 (x + 15) (x + 13) (.bool true) (by omega)).trans e13_14
            have e15_15 := eval_same b14 (x + 15) (.bool true) (by rw [K14.size]; omega)
            generalize b14.put (some (x + 15)) (.bool true) = b15 at K15 e2_15 e13_15 e15_15 ⊢
            refine guard_yes (v := .bool true) (j := 2) (b := true) (d := x + 2) rfl rfl (by rw [K15.size]; omega) e2_15 (run_pickf e13_15 e15_15) ?_
            show wpList _ _ _ _ (b15.put (some (x + 16)) (.bool true)) _
            have K16 := K15.put (x + 16) (.bool true) (by omega)
            have e2_16 := (eval_other b15 (x + 16) (x + 2) (.bool true) (by omega)).trans e2_15
            have e16_16 := eval_same b15 (x + 16) (.bool true) (by rw [K15.size]; omega)
            generalize b15.put (some (x + 16)) (.bool true) = b16 at K16 e2_16 e16_16 ⊢
            refine Fr.step (v := .bool true) rfl (run_pickt e2_16 e16_16) ?_
            show wpList _ _ _ _ (b16.put (some (x + 17)) (.bool true)) _
            have K17 := K16.put (x + 17) (.bool true) (by omega)
            have e17_17 := eval_same b16 (x + 17) (.bool true) (by rw [K16.size]; omega)
            generalize b16.put (some (x + 17)) (.bool true) = b17 at K17 e17_17 ⊢
            exact wpList_nil (H _ (fun k hk => K17.low k hk) K17.size K17.defers e17_17)
          | false =>
            rw [kb0, kb1, kb2, kb3] at H
            simp only [Bool.or_false, Bool.false_or] at H
            refine guard_yes (v := .int .i32 r) (j := 2) (b := true) (d := x + 2) rfl rfl (by rw [K2.size]; omega) e2 (run_mv ((K2.low z (by omega)).trans hv)) ?_
            show wpList _ _ _ _ (b2.put (some (x + 3)) (.int .i32 r)) _
            have K3 := K2.put (x + 3) (.int .i32 r) (by omega)
            have e2_3 := (eval_other b2 (x + 3) (x + 2) (.int .i32 r) (by omega)).trans e2
            have e3_3 := eval_same b2 (x + 3) (.int .i32 r) (by rw [K2.size]; omega)
            generalize b2.put (some (x + 3)) (.int .i32 r) = b3 at K3 e2_3 e3_3 ⊢
            refine guard_yes (v := .bool false) (j := 2) (b := true) (d := x + 2) rfl rfl (by rw [K3.size]; omega) e2_3 (by conv => { rhs; rw [← kb0] }; exact run_eqli (m := r) (n := 9225) Tryd.underlying21 e3_3 rfl) ?_
            show wpList _ _ _ _ (b3.put (some (x + 4)) (.bool false)) _
            have K4 := K3.put (x + 4) (.bool false) (by omega)
            have e2_4 := (eval_other b3 (x + 4) (x + 2) (.bool false) (by omega)).trans e2_3
            have e4_4 := eval_same b3 (x + 4) (.bool false) (by rw [K3.size]; omega)
            generalize b3.put (some (x + 4)) (.bool false) = b4 at K4 e2_4 e4_4 ⊢
            refine guard_yes (v := .bool false) (j := 2) (b := true) (d := x + 2) rfl rfl (by rw [K4.size]; omega) e2_4 (run_mv e4_4) ?_
            show wpList _ _ _ _ (b4.put (some (x + 5)) (.bool false)) _
            have K5 := K4.put (x + 5) (.bool false) (by omega)
            have e2_5 := (eval_other b4 (x + 5) (x + 2) (.bool false) (by omega)).trans e2_4
            have e5_5 := eval_same b4 (x + 5) (.bool false) (by rw [K4.size]; omega)
            generalize b4.put (some (x + 5)) (.bool false) = b5 at K5 e2_5 e5_5 ⊢
            refine guard_yes (v := .int .i32 r) (j := 5) (b := false) (d := x + 5) rfl rfl (by rw [K5.size]; omega) e5_5 (run_mv ((K5.low z (by omega)).trans hv)) ?_
            show wpList _ _ _ _ (b5.put (some (x + 6)) (.int .i32 r)) _
            have K6 := K5.put (x + 6) (.int .i32 r) (by omega)
            have e2_6 := (eval_other b5 (x + 6) (x + 2) (.int .i32 r) (by omega)).trans e2_5
            have e5_6 := (eval_other b5 (x + 6) (x + 5) (.int .i32 r) (by omega)).trans e5_5
            have e6_6 := eval_same b5 (x + 6) (.int .i32 r) (by rw [K5.size]; omega)
            generalize b5.put (some (x + 6)) (.int .i32 r) = b6 at K6 e2_6 e5_6 e6_6 ⊢
            refine guard_yes (v := .bool false) (j := 5) (b := false) (d := x + 5) rfl rfl (by rw [K6.size]; omega) e5_6 (by conv => { rhs; rw [← kb1] }; exact run_eqli (m := r) (n := 9226) Tryd.underlying21 e6_6 rfl) ?_
            show wpList _ _ _ _ (b6.put (some (x + 7)) (.bool false)) _
            have K7 := K6.put (x + 7) (.bool false) (by omega)
            have e2_7 := (eval_other b6 (x + 7) (x + 2) (.bool false) (by omega)).trans e2_6
            have e5_7 := (eval_other b6 (x + 7) (x + 5) (.bool false) (by omega)).trans e5_6
            have e7_7 := eval_same b6 (x + 7) (.bool false) (by rw [K6.size]; omega)
            generalize b6.put (some (x + 7)) (.bool false) = b7 at K7 e2_7 e5_7 e7_7 ⊢
            refine guard_yes (v := .bool false) (j := 2) (b := true) (d := x + 2) rfl rfl (by rw [K7.size]; omega) e2_7 (run_pickf e5_7 e7_7) ?_
            show wpList _ _ _ _ (b7.put (some (x + 8)) (.bool false)) _
            have K8 := K7.put (x + 8) (.bool false) (by omega)
            have e2_8 := (eval_other b7 (x + 8) (x + 2) (.bool false) (by omega)).trans e2_7
            have e8_8 := eval_same b7 (x + 8) (.bool false) (by rw [K7.size]; omega)
            generalize b7.put (some (x + 8)) (.bool false) = b8 at K8 e2_8 e8_8 ⊢
            refine guard_yes (v := .bool false) (j := 2) (b := true) (d := x + 2) rfl rfl (by rw [K8.size]; omega) e2_8 (run_mv e8_8) ?_
            show wpList _ _ _ _ (b8.put (some (x + 9)) (.bool false)) _
            have K9 := K8.put (x + 9) (.bool false) (by omega)
            have e2_9 := (eval_other b8 (x + 9) (x + 2) (.bool false) (by omega)).trans e2_8
            have e9_9 := eval_same b8 (x + 9) (.bool false) (by rw [K8.size]; omega)
            generalize b8.put (some (x + 9)) (.bool false) = b9 at K9 e2_9 e9_9 ⊢
            refine guard_yes (v := .int .i32 r) (j := 9) (b := false) (d := x + 9) rfl rfl (by rw [K9.size]; omega) e9_9 (run_mv ((K9.low z (by omega)).trans hv)) ?_
            show wpList _ _ _ _ (b9.put (some (x + 10)) (.int .i32 r)) _
            have K10 := K9.put (x + 10) (.int .i32 r) (by omega)
            have e2_10 := (eval_other b9 (x + 10) (x + 2) (.int .i32 r) (by omega)).trans e2_9
            have e9_10 := (eval_other b9 (x + 10) (x + 9) (.int .i32 r) (by omega)).trans e9_9
            have e10_10 := eval_same b9 (x + 10) (.int .i32 r) (by rw [K9.size]; omega)
            generalize b9.put (some (x + 10)) (.int .i32 r) = b10 at K10 e2_10 e9_10 e10_10 ⊢
            refine guard_yes (v := .bool false) (j := 9) (b := false) (d := x + 9) rfl rfl (by rw [K10.size]; omega) e9_10 (by conv => { rhs; rw [← kb2] }; exact run_eqli (m := r) (n := 9227) Tryd.underlying21 e10_10 rfl) ?_
            show wpList _ _ _ _ (b10.put (some (x + 11)) (.bool false)) _
            have K11 := K10.put (x + 11) (.bool false) (by omega)
            have e2_11 := (eval_other b10 (x + 11) (x + 2) (.bool false) (by omega)).trans e2_10
            have e9_11 := (eval_other b10 (x + 11) (x + 9) (.bool false) (by omega)).trans e9_10
            have e11_11 := eval_same b10 (x + 11) (.bool false) (by rw [K10.size]; omega)
            generalize b10.put (some (x + 11)) (.bool false) = b11 at K11 e2_11 e9_11 e11_11 ⊢
            refine guard_yes (v := .bool false) (j := 2) (b := true) (d := x + 2) rfl rfl (by rw [K11.size]; omega) e2_11 (run_pickf e9_11 e11_11) ?_
            show wpList _ _ _ _ (b11.put (some (x + 12)) (.bool false)) _
            have K12 := K11.put (x + 12) (.bool false) (by omega)
            have e2_12 := (eval_other b11 (x + 12) (x + 2) (.bool false) (by omega)).trans e2_11
            have e12_12 := eval_same b11 (x + 12) (.bool false) (by rw [K11.size]; omega)
            generalize b11.put (some (x + 12)) (.bool false) = b12 at K12 e2_12 e12_12 ⊢
            refine guard_yes (v := .bool false) (j := 2) (b := true) (d := x + 2) rfl rfl (by rw [K12.size]; omega) e2_12 (run_mv e12_12) ?_
            show wpList _ _ _ _ (b12.put (some (x + 13)) (.bool false)) _
            have K13 := K12.put (x + 13) (.bool false) (by omega)
            have e2_13 := (eval_other b12 (x + 13) (x + 2) (.bool false) (by omega)).trans e2_12
            have e13_13 := eval_same b12 (x + 13) (.bool false) (by rw [K12.size]; omega)
            generalize b12.put (some (x + 13)) (.bool false) = b13 at K13 e2_13 e13_13 ⊢
            refine guard_yes (v := .int .i32 r) (j := 13) (b := false) (d := x + 13) rfl rfl (by rw [K13.size]; omega) e13_13 (run_mv ((K13.low z (by omega)).trans hv)) ?_
            show wpList _ _ _ _ (b13.put (some (x + 14)) (.int .i32 r)) _
            have K14 := K13.put (x + 14) (.int .i32 r) (by omega)
            have e2_14 := (eval_other b13 (x + 14) (x + 2) (.int .i32 r) (by omega)).trans e2_13
            have e13_14 := (eval_other b13 (x + 14) (x + 13) (.int .i32 r) (by omega)).trans e13_13
            have e14_14 := eval_same b13 (x + 14) (.int .i32 r) (by rw [K13.size]; omega)
            generalize b13.put (some (x + 14)) (.int .i32 r) = b14 at K14 e2_14 e13_14 e14_14 ⊢
            refine guard_yes (v := .bool false) (j := 13) (b := false) (d := x + 13) rfl rfl (by rw [K14.size]; omega) e13_14 (by conv => { rhs; rw [← kb3] }; exact run_eqli (m := r) (n := 9229) Tryd.underlying21 e14_14 rfl) ?_
            show wpList _ _ _ _ (b14.put (some (x + 15)) (.bool false)) _
            have K15 := K14.put (x + 15) (.bool false) (by omega)
            have e2_15 := (eval_other b14 (x + 15) (x + 2) (.bool false) (by omega)).trans e2_14
            have e13_15 := (eval_other b14 (x + 15) (x + 13) (.bool false) (by omega)).trans e13_14
            have e15_15 := eval_same b14 (x + 15) (.bool false) (by rw [K14.size]; omega)
            generalize b14.put (some (x + 15)) (.bool false) = b15 at K15 e2_15 e13_15 e15_15 ⊢
            refine guard_yes (v := .bool false) (j := 2) (b := true) (d := x + 2) rfl rfl (by rw [K15.size]; omega) e2_15 (run_pickf e13_15 e15_15) ?_
            show wpList _ _ _ _ (b15.put (some (x + 16)) (.bool false)) _
            have K16 := K15.put (x + 16) (.bool false) (by omega)
            have e2_16 := (eval_other b15 (x + 16) (x + 2) (.bool false) (by omega)).trans e2_15
            have e16_16 := eval_same b15 (x + 16) (.bool false) (by rw [K15.size]; omega)
            generalize b15.put (some (x + 16)) (.bool false) = b16 at K16 e2_16 e16_16 ⊢
            refine Fr.step (v := .bool false) rfl (run_pickt e2_16 e16_16) ?_
            show wpList _ _ _ _ (b16.put (some (x + 17)) (.bool false)) _
            have K17 := K16.put (x + 17) (.bool false) (by omega)
            have e17_17 := eval_same b16 (x + 17) (.bool false) (by rw [K16.size]; omega)
            generalize b16.put (some (x + 17)) (.bool false) = b17 at K17 e17_17 ⊢
            exact wpList_nil (H _ (fun k hk => K17.low k hk) K17.size K17.defers e17_17)
end
end Go.Proofs.YtlgoghonnnobfaaDoor.Dec
namespace Go.Proofs.YtlgoghonnnobfaaDoor.Pu
open Go Go.RowKit Go.Proofs.YtlgoghonnnobfaaDoorW.PrintWords
set_option linter.unusedVariables false
set_option linter.unusedSimpArgs false
/-! ### two hexadecimal digits are read -/
/-- The value of a hexadecimal digit. -/
def hexd (c : Nat) : Option Nat := if 48 ≤ c ∧ c ≤ 57 then some (c - 48) else if 97 ≤ c ∧ c ≤ 102 then some (c - 87) else if 65 ≤ c ∧ c ≤ 70 then some (c - 55) else none
def low (c : Nat) : Int := Go.bits .or .u8 (c : Int) 32
set_option maxRecDepth 100000 in
theorem low_all : ∀ c : Fin 256, 0 ≤ low c.val ∧ low c.val < 256 ∧ ((48 ≤ c.val ∧ c.val ≤ 57) ∨ ((57 < c.val ∧ c.val ≠ 95) ∧ (97 ≤ low c.val ∧ low c.val ≤ 102) ∧ hexd c.val = some (low c.val - 87).toNat) ∨ (hexd c.val = none ∧ ((c.val < 48 ∧ low c.val < 97) ∨ (57 < c.val ∧ low c.val < 97) ∨ (57 < c.val ∧ 102 < low c.val ∧ low c.val ≤ 122) ∨ (57 < c.val ∧ 122 < low c.val)))) := by decide
theorem hexd_lt (c a : Nat) (h : hexd c = some a) : a < 16 := by
  unfold hexd at h
  split at h
  · injection h; omega
  · split at h
    · injection h; omega
    · split at h
      · injection h; omega
      · cases h
def two (s : ByteArray) : Option Nat := (hexd (s.get! 0).toNat).bind fun a => (hexd (s.get! 1).toNat).map fun b => 16 * a + b
def puV (s : ByteArray) : Value :=
  match two s with
  | some u => .tuple #[.int .u64 (u : Int), .nilIface]
  | none => .tuple #[.int .u64 0, .iface 101 (.int .i64 2)]
def two2 (c0 c1 : Nat) : Option Nat := (hexd c0).bind fun a => (hexd c1).map fun b => 16 * a + b
def puW (c0 c1 : Nat) : Value :=
  match two2 c0 c1 with
  | some u => .tuple #[.int .u64 (u : Int), .nilIface]
  | none => .tuple #[.int .u64 0, .iface 101 (.int .i64 2)]
/-- What is read behind k digits. -/
def Rel (c0 c1 k : Nat) (a : Int) : Prop := (k = 0 ∧ a = 0) ∨ (k = 1 ∧ ∃ x, hexd c0 = some x ∧ a = (x : Int)) ∨ (k = 2 ∧ ∃ u, two2 c0 c1 = some u ∧ a = (u : Int))
set_option maxRecDepth 100000 in
set_option maxHeartbeats 1000000 in
theorem pu77 (s : ByteArray) (h2 : s.size = 2) (w : World) : Calls Tryd.prog 77 #[.string s, .int .i64 16, .int .i64 8] w fun e w' => e = .returned (puV s) ∧ Below w.heap.size w w' := by
  have hne : s.toList ≠ [] := by rw [Lib.toList_data]; intro h; have := congrArg List.length h; have e : s.data.toList.length = s.size := rfl; rw [e, h2] at this; cases this
  have hb : (s.toList == []) = false := beq_eq_false_iff_ne.mpr hne
  have hcv := Lib.run_convert_string_bytes (P := Tryd.prog) w 9 28 5 s (u := .string) Tryd.underlying9 Tryd.underlying28 Tryd.underlying5
  have hB : ∀ j, j < s.size → (Lib.bytesWorld w 5 s).cell? ⟨w.heap.size, j, none⟩ = some (.int .u8 (s.data.toList.getD j 0).toNat) := fun j hj => Lib.bytesWorld_cell w 5 s j hj
  have hBe : Hid (Below w.heap.size w (Lib.bytesWorld w 5 s)) := Lib.hid (bytes_below (Below.refl _ w) (Nat.le_refl _) 5 s)
  obtain ⟨W1, hW1⟩ : ∃ W1, W1 = Lib.bytesWorld w 5 s := ⟨_, rfl⟩
  rw [← hW1] at hcv hB hBe
  clear hW1
  have hB0 := hB 0 (by omega)
  have hB1 := hB 1 (by omega)
  rw [Lib.getD_get!'] at hB0 hB1
  clear hB
  obtain ⟨c0, hc0⟩ : ∃ c : Nat, (s.get! 0).toNat = c := ⟨_, rfl⟩
  obtain ⟨c1, hc1⟩ : ∃ c : Nat, (s.get! 1).toNat = c := ⟨_, rfl⟩
  rw [hc0] at hB0
  rw [hc1] at hB1
  have l0 : c0 < 256 := by rw [← hc0]; exact (s.get! 0).toNat_lt
  have l1 : c1 < 256 := by rw [← hc1]; exact (s.get! 1).toNat_lt
  have hV : Hid (puV s = puW c0 c1) := Lib.hid (by unfold puV puW two two2; rw [hc0, hc1])
  clear hc0 hc1 hne
  go_enter Tryd.func77, Tryd.ntmps77
  go_wp2
  go_loop [12, 13, 101] (fun vu vn vi => ∃ (k : Nat) (a : Int), vu = .bool false ∧ vn = .int .u64 a ∧ vi = .int .i64 k ∧ k ≤ 2 ∧ Hid (Rel c0 c1 k a))
    (fun _ _ vi => 2 - (intOf vi).toNat)
  case atStart => exact ⟨0, 0, rfl, rfl, rfl, by omega, Lib.hid (.inl ⟨rfl, rfl⟩)⟩
  case round =>
    obtain ⟨k, a, rfl, rfl, rfl, hk, hh⟩ := hrel
    have hR := hh.out
    clear hh
    rcases hR with ⟨rfl, ha⟩ | ⟨rfl, Y, hy, ha⟩ | ⟨rfl, u, hu, ha⟩
    · -- the digit at 0
      obtain rfl : a = 0 := ha
      have hA := low_all ⟨c0, l0⟩
      simp only at hA
      obtain ⟨L, hL⟩ : ∃ L, low c0 = L := ⟨_, rfl⟩
      rw [hL] at hA
      obtain ⟨b0, b1, hA⟩ := hA
      unfold low at hL
      rcases hA with ⟨d0, d1⟩ | ⟨⟨dd, d9⟩, ⟨d0, d1⟩, hX⟩ | ⟨hX, hA⟩
      · have hX : hexd c0 = some (c0 - 48) := by unfold hexd; rw [if_pos ⟨d0, d1⟩]
        have HN : Hid (Rel c0 c1 1 ((c0 : Int) - 48)) := by
          obtain ⟨X, eX⟩ : ∃ X, c0 - 48 = X := ⟨_, rfl⟩
          rw [eX] at hX
          exact Lib.hid (.inr (.inl ⟨rfl, X, hX, by omega⟩))
        clear hX hL b0 b1 hV
        go_wp2
        exact ⟨⟨1, (c0 : Int) - 48, rfl, rfl, rfl, by omega, HN⟩, by simp [intOf]⟩
      · have HN : Hid (Rel c0 c1 1 (L - 97 + 10)) := by
          obtain ⟨X, eX⟩ : ∃ X, (L - 87).toNat = X := ⟨_, rfl⟩
          rw [eX] at hX
          exact Lib.hid (.inr (.inl ⟨rfl, X, hX, by omega⟩))
        clear hX hV
        go_wp2_with (go_at_call 84; (with_reducible refine (Shelf.Tryd.internal_strconv_lower _ _).mono ?_); rintro e w' ⟨rfl, rfl⟩)
        exact ⟨⟨1, L - 97 + 10, rfl, rfl, rfl, by omega, HN⟩, by simp [intOf]⟩
      · have hE : Hid (puW c0 c1 = .tuple #[.int .u64 0, .iface 101 (.int .i64 2)]) := Lib.hid (by unfold puW two2; rw [hX]; rfl)
        have hu0 := bits_lo_u8 .or 95 32
        have hu1 := bits_hi_u8 .or 95 32
        have HP : Hid (puV s = .tuple #[.int .u64 0, .iface 101 (.int .i64 2)]) := Lib.hid (hV.out.trans hE.out)
        clear hV hE hX
        rcases hA with ⟨d0, d1⟩ | ⟨d0, d1⟩ | ⟨d0, d1, d2⟩ | ⟨d0, d1⟩
        all_goals (go_wp2_with (go_at_call 84; (with_reducible refine (Shelf.Tryd.internal_strconv_lower _ _).mono ?_); rintro e w' ⟨rfl, rfl⟩))
        all_goals go_ret2
        all_goals exact ⟨by rw [HP.out]; rfl, hBe.out⟩
    · -- the digit at 1
      have y16 := hexd_lt _ _ hy
      have a0 : 0 ≤ a := by omega
      have a1 : a < 16 := by omega
      have ay : Hid (a = (Y : Int)) := Lib.hid ha
      clear ha
      have hA := low_all ⟨c1, l1⟩
      simp only at hA
      obtain ⟨L, hL⟩ : ∃ L, low c1 = L := ⟨_, rfl⟩
      rw [hL] at hA
      obtain ⟨b0, b1, hA⟩ := hA
      unfold low at hL
      rcases hA with ⟨d0, d1⟩ | ⟨⟨dd, d9⟩, ⟨d0, d1⟩, hX⟩ | ⟨hX, hA⟩
      · have hX : hexd c1 = some (c1 - 48) := by unfold hexd; rw [if_pos ⟨d0, d1⟩]
        have HN : Hid (Rel c0 c1 2 (a * 16 + ((c1 : Int) - 48))) := by
          have := ay.out; obtain ⟨X, eX⟩ : ∃ X, c1 - 48 = X := ⟨_, rfl⟩
          rw [eX] at hX
          exact Lib.hid (.inr (.inr ⟨rfl, 16 * Y + X, by unfold two2; rw [hy, hX]; rfl, by omega⟩))
        clear hX hL b0 b1 hV
        go_wp2
        exact ⟨⟨2, a * 16 + ((c1 : Int) - 48), rfl, rfl, rfl, by omega, HN⟩, by simp [intOf]⟩
      · have HN : Hid (Rel c0 c1 2 (a * 16 + (L - 97 + 10))) := by
          have := ay.out; obtain ⟨X, eX⟩ : ∃ X, (L - 87).toNat = X := ⟨_, rfl⟩
          rw [eX] at hX
          exact Lib.hid (.inr (.inr ⟨rfl, 16 * Y + X, by unfold two2; rw [hy, hX]; rfl, by omega⟩))
        clear hX hV
        go_wp2_with (go_at_call 84; (with_reducible refine (Shelf.Tryd.internal_strconv_lower _ _).mono ?_); rintro e w' ⟨rfl, rfl⟩)
        exact ⟨⟨2, a * 16 + (L - 97 + 10), rfl, rfl, rfl, by omega, HN⟩, by simp [intOf]⟩
      · have hE : Hid (puW c0 c1 = .tuple #[.int .u64 0, .iface 101 (.int .i64 2)]) := Lib.hid (by unfold puW two2; rw [hy, hX]; rfl)
        have hu0 := bits_lo_u8 .or 95 32
        have hu1 := bits_hi_u8 .or 95 32
        have HP : Hid (puV s = .tuple #[.int .u64 0, .iface 101 (.int .i64 2)]) := Lib.hid (hV.out.trans hE.out)
        clear hV hE hX
        rcases hA with ⟨d0, d1⟩ | ⟨d0, d1⟩ | ⟨d0, d1, d2⟩ | ⟨d0, d1⟩
        all_goals (go_wp2_with (go_at_call 84; (with_reducible refine (Shelf.Tryd.internal_strconv_lower _ _).mono ?_); rintro e w' ⟨rfl, rfl⟩))
        all_goals go_ret2
        all_goals exact ⟨by rw [HP.out]; rfl, hBe.out⟩
    · -- the end
      have hP : Hid (puV s = .tuple #[.int .u64 a, .nilIface]) := Lib.hid (by rw [hV.out, ha]; unfold puW; rw [hu])
      clear hV hu ha
      go_wp2
      go_ret2
      exact ⟨by rw [hP.out]; rfl, hBe.out⟩
end Go.Proofs.YtlgoghonnnobfaaDoor.Pu
namespace Go.Proofs.YtlgoghonnnobfaaDoor.Enc
open Go Go.RowKit Go.Proofs.YtlgoghonnnobfaaDoor.Fr Go.Proofs.YtlgoghonnnobfaaDoor.Pu
set_option linter.unusedVariables false
set_option linter.unusedSimpArgs false
/-! ### a byte behind a quote is read -/
/-- What the variable that names a syntax error holds. -/
def Syn (w : World) : Prop := ∃ ev, w.cell? ⟨3, 0, none⟩ = some ev ∧ (ev = .nilIface ∨ ∃ te pe, ev = .iface te pe)
theorem Syn.below {B : Nat} {w w' : World} (h : Syn w) (hb : Below w.heap.size w w') : Syn w' := by
  obtain ⟨ev, h1, h2⟩ := h
  have hlt := World.block_lt_of_cell? w _ h1
  exact ⟨ev, (hb.cell (p := ⟨3, 0, none⟩) hlt).trans h1, h2⟩
def pname : ByteArray := ⟨#[80, 97, 114, 115, 101, 85, 105, 110, 116]⟩
set_option maxRecDepth 100000 in
set_option maxHeartbeats 1000000 in
theorem pu67_ok (s : ByteArray) (h2 : s.size = 2) (u : Nat) (hu : two s = some u) (w : World) : Calls Tryd.prog 67 #[.string s, .int .i64 16, .int .i64 8] w fun e w' => e = .returned (.tuple #[.int .u64 (u : Int), .nilIface]) ∧ Below w.heap.size w w' := by
  have h := pu77 s h2 w
  rw [puV, hu] at h
  simp only at h
  have HH := Lib.hid h
  clear h hu
  go_enter Tryd.func67, Tryd.ntmps67
  go_wp2_with (go_at_call 77; (with_reducible refine HH.out.mono ?_); rintro e w' ⟨rfl, hb⟩; have HB := Lib.hid hb; clear hb)
  go_ret2
  exact ⟨rfl, HB.out⟩
set_option maxRecDepth 100000 in
set_option maxHeartbeats 1000000 in
theorem pu67_no (s : ByteArray) (h2 : s.size = 2) (hu : two s = none) (w : World) (hS : Syn w) : Calls Tryd.prog 67 #[.string s, .int .i64 16, .int .i64 8] w fun e w' => (∃ N, e = .returned (.tuple #[.int .u64 0, .iface 104 (.pointer (some ⟨N, 0, none⟩))])) ∧ Below w.heap.size w w' := by
  have h := pu77 s h2 w
  rw [puV, hu] at h
  simp only at h
  have HH := Lib.hid h
  have HS := Lib.hid hS
  clear h hu hS
  go_enter Tryd.func67, Tryd.ntmps67
  go_wp2_with (first | (go_at_call 77; (with_reducible refine HH.out.mono ?_); rintro e w1 ⟨rfl, hb⟩; have HB := Lib.hid hb; clear hb; have HE := Lib.hid (HS.out.below (B := 0) HB.out); obtain ⟨ev, hv, hev⟩ := HE.out; have HV := Lib.hid hv; have HW := Lib.hid hev; clear hv hev) | (go_at_call 78; (with_reducible refine (Shelf.Tryd.strconv_toError_syntax _ s _ _ ev _ (by omega) HV.out HW.out).mono ?_); rintro e w2 ⟨N, rfl, hN, hN2, hb2⟩; have HB2 := Lib.hid hb2; clear hb2 hN hN2))
  go_ret2
  exact ⟨⟨N, rfl⟩, HB.out.trans (HB2.out.mono HB.out.size)⟩
theorem two_lt {s : ByteArray} {u : Nat} (h : two s = some u) : u < 256 := by
  unfold two at h
  obtain ⟨a, ha, h⟩ := Option.bind_eq_some_iff.1 h
  obtain ⟨b, hb, h⟩ := Option.map_eq_some_iff.1 h
  have h1 := hexd_lt _ _ ha
  have h2 := hexd_lt _ _ hb
  omega
/-- The byte that two hexadecimal digits at the head of a text tell. -/
def qb (t : ByteArray) : Option Nat := if t.size < 2 then none else two (t.extract 0 2)
set_option maxHeartbeats 1000000 in
set_option maxRecDepth 1000000 in
theorem unq51_short {w0 : World} {m : Int} {s : ByteArray} {b it pos : Nat} (acc : List UInt8) (w : World) (t : ByteArray) (ht : t.size < 2) (hJ : J w0 m s b it pos acc w) :
    Calls Tryd.prog 51 #[.iface 64 (.pointer (some ⟨b, 0, none⟩)), .string t] w fun e w' => e = .returned (.bool false) ∧ J w0 m s b it pos acc w' := by
  have HJ := Lib.hid hJ
  clear hJ
  go_enter Tryd.func51, Tryd.ntmps51
  go_wp2_with fail
  go_ret
  exact ⟨rfl, HJ.out⟩
set_option maxHeartbeats 1000000 in
set_option maxRecDepth 1000000 in
theorem unq51_no {w0 : World} {m : Int} {s : ByteArray} {b it pos : Nat} (hS : Syn w0) (acc : List UInt8) (w : World) (t : ByteArray) (ht : 2 ≤ t.size) (hu : two (t.extract 0 2) = none) (hJ : J w0 m s b it pos acc w) :
    Calls Tryd.prog 51 #[.iface 64 (.pointer (some ⟨b, 0, none⟩)), .string t] w fun e w' => e = .returned (.bool false) ∧ J w0 m s b it pos acc w' := by
  have hx : (t.extract 0 2).size = 2 := by simp [ByteArray.size_extract]; omega
  have HP := Lib.hid (fun W hW => pu67_no (t.extract 0 2) hx hu W hW)
  have HS := Lib.hid (Syn.below (B := 0) hS hJ.below)
  have HJ := Lib.hid hJ
  clear hJ hS hu hx
  go_enter Tryd.func51, Tryd.ntmps51
  go_wp2_with (go_at_call 67; (with_reducible refine (HP.out _ HS.out).mono ?_); rintro e w1 ⟨⟨N, rfl⟩, hb⟩; have HB := Lib.hid hb; clear hb)
  go_ret
  exact ⟨rfl, HJ.out.old HB.out⟩
theorem write_b {w0 : World} {m : Int} {s : ByteArray} {b it pos : Nat} (hbw : w0.heap.size < b) (acc : List UInt8) (w : World) (u : Nat) (hu : u < 256) (hl : acc.length ≤ 140737488355000) (hJ : J w0 m s b it pos acc w) :
    Calls Tryd.prog 126 #[.pointer (some ⟨b, 0, none⟩), .slice (some ⟨w.heap.size, 0, none⟩) 1 1] (w.alloc (.cells #[.int .u8 (u : Int)] 5)) fun e w' => e = .returned (.tuple #[.int .i64 1, .nilIface]) ∧ J w0 m s b it pos (acc ++ [UInt8.ofNat u]) w' := by
  have hB : Below w.heap.size w (w.alloc (.cells #[.int .u8 (u : Int)] 5)) := (Below.refl _ w).alloc (Nat.le_refl _) _
  have hJ2 := hJ.old hB
  have hlt := hJ.buf.lt
  have hbc : Lib.byteCells [UInt8.ofNat u] = [.int .u8 (u : Int)] := by
    simp only [Lib.byteCells, List.map_cons, List.map_nil, UInt8.toNat_ofNat']
    rw [Nat.mod_eq_of_lt (by omega)]
  refine (Shelf.Tryd.Buffer_Write_any w0.heap.size b (Lib.byteCells acc) (Lib.byteCells [UInt8.ofNat u]) ⟨w.heap.size, 0, none⟩ 1 1 _ hJ2.buf hJ2.below.size (Lib.byteCells_one _) (by simp [Lib.byteCells]) (by show w.heap.size ≠ b; omega) ?_ (Lib.byteCells_one _) (by simp [Lib.byteCells]; omega)).mono ?_
  · intro j v hv
    rw [hbc] at hv
    have hj : j < 1 := (List.getElem?_eq_some_iff.1 hv).1
    obtain rfl : j = 0 := by omega
    rw [WideShapes.add_plain, Nat.zero_add, Lib.cell_of_heap (heap_alloc_new w _)]
    simpa using hv
  · rintro e w' ⟨rfl, h1, h2, h3⟩
    exact ⟨rfl, hJ2.wrote hbw h1 h2 h3⟩
set_option maxHeartbeats 1000000 in
set_option maxRecDepth 1000000 in
theorem unq51_ok {w0 : World} {m : Int} {s : ByteArray} {b it pos : Nat} (hbw : w0.heap.size < b) (acc : List UInt8) (w : World) (t : ByteArray) (ht : 2 ≤ t.size) (u : Nat) (hu : two (t.extract 0 2) = some u) (hl : acc.length ≤ 140737488355000) (hJ : J w0 m s b it pos acc w) :
    Calls Tryd.prog 51 #[.iface 64 (.pointer (some ⟨b, 0, none⟩)), .string t] w fun e w' => e = .returned (.bool true) ∧ J w0 m s b it pos (acc ++ [UInt8.ofNat u]) w' := by
  have hx : (t.extract 0 2).size = 2 := by simp [ByteArray.size_extract]; omega
  have HP := Lib.hid (fun W => pu67_ok (t.extract 0 2) hx u hu W)
  have hu256 : u < 256 := two_lt hu
  have HJ := Lib.hid hJ
  clear hJ hu hx
  have hmeth := fun (v : Value) (W : World) => meth v W
  have hahead := fun (v : Value) (W : World) => ahead v W
  have HL := Lib.hid hl
  have HBW := Lib.hid hbw
  clear hl hbw
  go_enter Tryd.func51, Tryd.ntmps51
  go_wp2_with (first | (go_at_call 67; (with_reducible refine (HP.out _).mono ?_); rintro e w1 ⟨rfl, hb⟩; have HB := Lib.hid hb; clear hb) | (go_at_call 126; (with_reducible refine (write_b HBW.out acc _ u hu256 HL.out (HJ.out.old HB.out)).mono ?_); rintro e w2 ⟨rfl, hj2⟩; have HJ2 := Lib.hid hj2; clear hj2))
  go_ret
  exact ⟨rfl, HJ2.out⟩
/-- appendUnquotedByte. -/
theorem unq51 {w0 : World} {m : Int} {s : ByteArray} {b it pos : Nat} (hS : Syn w0) (hbw : w0.heap.size < b) (acc : List UInt8) (w : World) (t : ByteArray) (hl : acc.length ≤ 140737488355000) (hJ : J w0 m s b it pos acc w) :
    Calls Tryd.prog 51 #[.iface 64 (.pointer (some ⟨b, 0, none⟩)), .string t] w fun e w' => e = .returned (.bool (qb t).isSome) ∧ J w0 m s b it pos (acc ++ (match qb t with | some u => [UInt8.ofNat u] | none => [])) w' := by
  unfold qb
  by_cases ht : t.size < 2
  · rw [if_pos ht]
    exact (unq51_short acc w t ht hJ).mono fun e w' h => ⟨h.1, by simpa using h.2⟩
  · rw [if_neg ht]
    cases hu : two (t.extract 0 2) with
    | none => exact (unq51_no hS acc w t (by omega) hu hJ).mono fun e w' h => ⟨h.1, by simpa using h.2⟩
    | some u => exact (unq51_ok hbw acc w t (by omega) u hu hl hJ).mono fun e w' h => ⟨h.1, h.2⟩
end Go.Proofs.YtlgoghonnnobfaaDoor.Enc
namespace Go.Proofs.YtlgoghonnnobfaaDoor.Dec
open Go Go.RowKit Go.Proofs.YtlgoghonnnobfaaDoor.Fr Go.Proofs.YtlgoghonnnobfaaDoor.Enc
set_option linter.unusedVariables false
set_option linter.unusedSimpArgs false
theorem enters51 : Enters Tryd.prog 51 := enters_of Tryd.func51 (by kernel_rfl) rfl
/-- What is asked of a world in which bytes behind a quote are read. -/
def Unq (lim : Nat) (pb : Addr) (I : List UInt8 → World → Prop) : Prop :=
  ∀ acc w (t : ByteArray), acc.length ≤ lim → I acc w → Calls Tryd.prog 51 #[.iface 64 (.pointer (some pb)), .string t] w fun e w' => e = .returned (.bool (qb t).isSome) ∧ I (acc ++ (match qb t with | some u => [UInt8.ofNat u] | none => [])) w'
set_option maxHeartbeats 1000000 in
/-- A quote ahead, where bytes stand behind quotes. -/
theorem dquf {Q : Exit → Act → World → Prop} {un : Bool} {s suf : ByteArray} {pit : Addr} {a : Act} {w : World} {m r : Int} {pm pb : Addr} {I : List UInt8 → World → Prop} {acc : List UInt8} {lim pos : Nat} (E : Env lim m pm pb I) (hU : Unq lim pb I) (hL : acc.length ≤ lim) (hA : DS un false s suf pm pb pit a) (hI : I acc w) (hf : hb m 16777216 = true)
    (h21 : a.eval (.tmp 21) = .bool true) (h24 : a.eval (.tmp 24) = .int .i64 (pos : Int)) (h25 : a.eval (.tmp 25) = .int .i32 r) (hp : pos < s.size)
    (Hx : ∀ u, qb (s.extract pos s.size) = some u → ∀ a' w', DS un true s suf pm pb pit a' → I (acc ++ [UInt8.ofNat u]) w' → Q (.exit 2) a' w')
    (Hn : qb (s.extract pos s.size) = none → ∀ a' w', DS un false s suf pm pb pit a' → a'.eval (.tmp 21) = .bool true → a'.eval (.tmp 24) = .int .i64 (pos : Int) → a'.eval (.tmp 25) = .int .i32 r → I (acc ++ Lib.encodeRune 8219) w' → (piece [1, 1, 1, 1, 1, 1, 1, 1, 1, 1, 1, 1, 1, 1, 1, 1, 0, 1, 0, 0, 1, 1, 0, 1, 1, 1, 1, 1, 1, 1, 1, 1, 1, 1, 1, 1, 1, 1, 1, 1, 1, 1, 1, 1, 1, 1, 1] (Tryd.f30.body.getD .skip)).wp Tryd.prog Q a' w') :
    (piece [1, 1, 1, 1, 1, 1, 1, 1, 1, 1, 1, 1, 1, 1, 1, 1, 0, 1, 0, 0, 1, 1, 0, 1, 1, 1, 1, 1, 1, 1, 1, 1, 1, 1, 1, 1, 1, 1, 1, 1, 1, 1, 1, 1, 1, 1] (Tryd.f30.body.getD .skip)).wp Tryd.prog Q a w := by
  conv => arg 2; whnf
  refine wp_seq ?_
  refine wp_seq (r_move ?_)
  show Code.wp _ _ _ _ _
  rw [h21]
  have s1 := (Same.refl a : Same 288 547 a a).put 519 (.bool true) (by decide) (by decide)
  have e1 := eval_same a 519 (.bool true) (by rw [hA.size]; decide)
  generalize a.put (some 519) (.bool true) = a1 at s1 e1
  have hA1 := hA.same s1
  have hz1 := hA1.size
  refine wp_cond e1 ?_
  rw [if_pos rfl]
  refine wp_seq ?_
  refine wp_seq (r_has (by omega) hA1.mask (E.cell _ _ hI) ?_)
  show Code.wp _ _ _ _ _
  refine wp_cond (eval_same _ _ _ (by rw [size_put]; omega)) ?_
  have s2 : Same 288 547 a ((a1.put (some 520) (.int .u64 m)).put (some 521) (.bool (hb m 16777216))) := (s1.put _ _ (by decide) (by decide)).put _ _ (by decide) (by decide)
  generalize (a1.put (some 520) (.int .u64 m)).put (some 521) (.bool (hb m 16777216)) = a2 at s2
  have hA2 := hA.same s2
  have hz2 := hA2.size
  rw [hf, if_pos rfl]
  refine wp_seq ?_
  refine wp_region_lit ?_
  refine Fr.step rfl (run_mk (v := .pointer (some pb)) Tryd.underlying64 hA2.buf) ?_
  refine lmove (v := .string s) ((eval_other _ _ _ _ (by decide)).trans hA2.inn) ?_
  refine lmove (v := .int .i64 (pos : Int)) (by rw [eval_other _ _ _ _ (by decide), eval_other _ _ _ _ (by decide), s2.slot 24 (by decide), h24]) ?_
  refine Fr.step rfl (run_from (s := s) (i := pos) Tryd.underlying9 (by rw [eval_other _ _ _ _ (by decide)]; exact eval_same _ _ _ (by simp only [size_put]; omega)) (eval_same _ _ _ (by simp only [size_put]; omega)) (by omega)) ?_
  have K : ∀ b : Act, (#[Operand.tmp 522, .tmp 525]).map b.eval = #[b.eval (.tmp 522), b.eval (.tmp 525)] := fun b => by simp
  refine call enters51 ?_
  rw [K, eval_same _ _ _ (by simp only [size_put]; omega), eval_other _ _ _ _ (by decide), eval_other _ _ _ _ (by decide), eval_other _ _ _ _ (by decide), eval_same _ _ _ (by omega)]
  refine (hU acc w (s.extract pos s.size) hL hI).mono ?_
  rintro e w3 ⟨rfl, hI3⟩
  refine ⟨_, rfl, ?_⟩
  have hB : ∀ v : Value, DS un false s suf pm pb pit (((((a2.put (some 522) (.iface 64 (.pointer (some pb)))).put (some 523) (.string s)).put (some 524) (.int .i64 (pos : Int))).put (some 525) (.string (s.extract pos s.size))).put (some 526) v) := fun v => ((((hA2.put _ _ (by decide)).put _ _ (by decide)).put _ _ (by decide)).put _ _ (by decide)).put _ _ (by decide)
  have hS : ∀ v : Value, Same 288 547 a (((((a2.put (some 522) (.iface 64 (.pointer (some pb)))).put (some 523) (.string s)).put (some 524) (.int .i64 (pos : Int))).put (some 525) (.string (s.extract pos s.size))).put (some 526) v) := fun v => ((((s2.put _ _ (by decide) (by decide)).put _ _ (by decide) (by decide)).put _ _ (by decide) (by decide)).put _ _ (by decide) (by decide)).put _ _ (by decide) (by decide)
  have hB := hB (.bool (qb (s.extract pos s.size)).isSome)
  have hS := hS (.bool (qb (s.extract pos s.size)).isSome)
  have e526 := eval_same ((((a2.put (some 522) (.iface 64 (.pointer (some pb)))).put (some 523) (.string s)).put (some 524) (.int .i64 (pos : Int))).put (some 525) (.string (s.extract pos s.size))) 526 (.bool (qb (s.extract pos s.size)).isSome) (by simp only [size_put]; omega)
  show wpList _ _ _ _ (((((a2.put (some 522) (.iface 64 (.pointer (some pb)))).put (some 523) (.string s)).put (some 524) (.int .i64 (pos : Int))).put (some 525) (.string (s.extract pos s.size))).put (some 526) (.bool (qb (s.extract pos s.size)).isSome)) _
  generalize (((((a2.put (some 522) (.iface 64 (.pointer (some pb)))).put (some 523) (.string s)).put (some 524) (.int .i64 (pos : Int))).put (some 525) (.string (s.extract pos s.size))).put (some 526) (.bool (qb (s.extract pos s.size)).isSome)) = a3 at hB hS e526
  have hz3 := hB.size
  refine lassign (v := .bool (qb (s.extract pos s.size)).isSome) e526 ?_
  refine wpList_nil ?_
  show Code.wp _ _ _ _ _
  refine wp_seq (r_move ?_)
  show Code.wp _ _ _ _ _
  rw [eval_same _ _ _ (by omega)]
  refine wp_cond (eval_same _ _ _ (by rw [size_put]; omega)) ?_
  have mk : ∀ b : Bool, DS un b s suf pm pb pit ((a3.put (some 23) (.bool b)).put (some 527) (.bool b)) := fun b =>
    ⟨by simp only [size_put]; exact hB.size, by rw [eval_other _ _ _ _ (by decide), eval_other _ _ _ _ (by decide)]; exact hB.inn, by rw [eval_other _ _ _ _ (by decide), eval_other _ _ _ _ (by decide)]; exact hB.mask, by rw [eval_other _ _ _ _ (by decide), eval_other _ _ _ _ (by decide)]; exact hB.suf, by rw [eval_other _ _ _ _ (by decide), eval_other _ _ _ _ (by decide)]; exact hB.buf, by rw [eval_other _ _ _ _ (by decide), eval_other _ _ _ _ (by decide)]; exact hB.iter, by rw [eval_other _ _ _ _ (by decide), eval_other _ _ _ _ (by decide)]; exact hB.un, by rw [eval_other _ _ _ _ (by decide)]; exact eval_same _ _ _ (by omega), by simp only [defers_put]; exact hB.defers⟩
  cases hq : qb (s.extract pos s.size) with
  | some u =>
    rw [hq] at hI3
    rw [if_pos (show (some u).isSome = true from rfl)]
    refine wp_exit ?_
    exact Hx u hq _ _ (mk true) hI3
  | none =>
    rw [hq] at hI3
    simp only [List.append_nil] at hI3
    rw [if_neg (by decide)]
    refine wp_skip ?_
    show Code.wp _ _ _ _ _
    have mk := mk false
    have f : ∀ k : Nat, k < 288 → k ≠ 23 → ((a3.put (some 23) (.bool false)).put (some 527) (.bool false)).eval (.tmp k) = a.eval (.tmp k) := fun k h1 h2 => by
      rw [eval_other _ _ _ _ (by omega), eval_other _ _ _ _ (by omega)]; exact hS.slot k (by omega)
    have f21 := (f 21 (by decide) (by decide)).trans h21
    have f24 := (f 24 (by decide) (by decide)).trans h24
    have f25 := (f 25 (by decide) (by decide)).trans h25
    show Code.wp _ _ _ ((a3.put (some 23) (.bool false)).put (some 527) (.bool false)) w3
    generalize ((a3.put (some 23) (.bool false)).put (some 527) (.bool false)) = a4 at mk f21 f24 f25
    refine r_wconst E hL (mk.ctx f25 f21) hI3 (by decide) (by decide) fun v w' hI' => ?_
    refine Hn hq _ _ (mk.put 528 v (by decide)) ((eval_other _ _ _ _ (by decide)).trans f21) ((eval_other _ _ _ _ (by decide)).trans f24) ((eval_other _ _ _ _ (by decide)).trans f25) hI'
/-- What a sign writes, whether a quote is then ahead, and whether the next sign is passed over. 'raw': the bytes that stand there; 'rest': what stands from there on. -/
def dstep (m r : Int) (un : Bool) (raw : List UInt8) (rest : ByteArray) : List UInt8 × Bool × Bool :=
  if r = 9216 then (Lib.encodeRune (if un = true then r else 0), false, false)
  else if r = 8219 then (if un = true then Lib.encodeRune r else [], !un, false)
  else match decBy m r un Enc.bits with
    | some l => (l, false, false)
    | none =>
      if un = true ∧ hb m 16777216 = true ∧ (qb rest).isSome = true then ([UInt8.ofNat ((qb rest).getD 0)], false, true)
      else ((if un = true then Lib.encodeRune 8219 else []) ++ (if r = 65533 then raw else Lib.encodeRune r), false, false)
set_option maxHeartbeats 1000000 in
theorem dround2 {Q : Exit → Act → World → Prop} {s suf : ByteArray} {pm pb pit : Addr} {a : Act} {w : World} {m r : Int} {un sk : Bool} {I : List UInt8 → World → Prop} {acc : List UInt8} {lim pos l : Nat} (E : Env2 lim m pm pb I) (hU : Unq lim pb I) (hL : acc.length + 16 ≤ lim) (hA : DS un sk s suf pm pb pit a) (hI : I acc w)
    (h288 : a.eval (.tmp 288) = .tuple #[.bool true, .int .i64 (pos : Int), .int .i32 r]) (hr0 : 0 ≤ r) (hr1 : r ≤ 1114111) (hs : s.size ≤ 140737488355328) (hp : pos < s.size) (hl : (Lib.decodeGo (s.extract pos s.size)).2 = l) (hfit : pos + l ≤ s.size) (hl4 : l ≤ 4)
    (H1 : sk = true → ∀ a', DS un false s suf pm pb pit a' → Q (.exit 2) a' w)
    (H2 : sk = false → ∀ e a' w', (e = .exit 2 ∨ e = .normal) → DS (dstep m r un (s.extract pos (pos + l)).toList (s.extract pos s.size)).2.1 (dstep m r un (s.extract pos (pos + l)).toList (s.extract pos s.size)).2.2 s suf pm pb pit a' → I (acc ++ (dstep m r un (s.extract pos (pos + l)).toList (s.extract pos s.size)).1) w' → Q e a' w') :
    (piece [1, 1, 1, 1, 1, 1, 1, 1, 1, 1, 1, 1, 1, 1, 1, 1, 0, 1, 0, 0, 1, 1, 0] (Tryd.f30.body.getD .skip)).wp Tryd.prog Q a w := by
  by_cases hf : hb m 16777216 = false
  · refine dround E hL hA hI hf h288 hr0 hr1 hs hp hl hfit hl4 H1 fun h e a' w' he hD hI' => ?_
    have key : dstep m r un (s.extract pos (pos + l)).toList (s.extract pos s.size) = ((dunit m r un (s.extract pos (pos + l)).toList).1, (dunit m r un (s.extract pos (pos + l)).toList).2, false) := by
      unfold dstep dunit
      split
      · rfl
      · split
        · rfl
        · cases decBy m r un Enc.bits with
          | some l => rfl
          | none => simp [hf]
    refine H2 h e a' w' he ?_ ?_
    · rw [key]; exact hD
    · rw [key]; exact hI'
  have hf : hb m 16777216 = true := by simpa using hf
  refine dhead ⟨hA.size, hA.inn, hA.mask, hA.suf, hA.buf, hA.iter, hA.defers⟩ hA.un hA.sk h288 (fun h a' hB h1 h2 => H1 h a' (hB.ds h1 h2)) fun h a1 hB h21 h22 h23 h24 h25 => ?_
  have H2 := H2 h
  have D1 := hB.ds h22 h23
  clear hB
  refine dfirst E.env (by omega) (D1.ctx h25 h21) hI hr0 hr1 ?_ ?_ ?_ ?_
  · intro k a' w' hs' hI'
    refine H2 _ a' w' (.inl rfl) ?_ ?_
    · rw [dstep, if_pos k]; exact D1.same hs'
    · rw [dstep, if_pos k]; exact hI'
  · intro k k2 a' w' hs' hI'
    subst k2
    refine H2 _ a' w' (.inl rfl) ?_ ?_
    · rw [dstep, if_neg (by omega), if_pos k]; exact D1.same hs'
    · rw [dstep, if_neg (by omega), if_pos k]; exact hI'
  · intro k k2 a' hs'
    subst k2
    have D2 := D1.same hs'
    refine H2 _ _ w (.inl rfl) ?_ ?_
    · rw [dstep, if_neg (by omega), if_pos k]
      exact ⟨(size_put _ _ _).trans D2.size, (eval_other _ _ _ _ (by decide)).trans D2.inn, (eval_other _ _ _ _ (by decide)).trans D2.mask, (eval_other _ _ _ _ (by decide)).trans D2.suf, (eval_other _ _ _ _ (by decide)).trans D2.buf, (eval_other _ _ _ _ (by decide)).trans D2.iter, eval_same _ _ _ (by rw [D2.size]; decide), (eval_other _ _ _ _ (by decide)).trans D2.sk, (defers_put _ _ _).trans D2.defers⟩
    · rw [dstep, if_neg (by omega), if_pos k]; simpa using hI
  intro k1 k2 a2 hs2
  have g21 := (hs2.slot 21 (by decide)).trans h21
  have g24 := (hs2.slot 24 (by decide)).trans h24
  have g25 := (hs2.slot 25 (by decide)).trans h25
  have D2 := D1.same hs2
  refine dchain E.env (by omega) (D2.ctx g25 g21) hI hr0 hr1 ?_ ?_
  · intro ll a' w' hd hs' hI'
    refine H2 _ a' w' (.inl rfl) ?_ ?_
    · rw [dstep, if_neg k1, if_neg k2, hd]; exact D2.same hs'
    · rw [dstep, if_neg k1, if_neg k2, hd]; exact hI'
  intro hd a3 hs3
  rw [dstep, if_neg k1, if_neg k2, hd] at H2
  have i21 := (hs3.slot 21 (by decide)).trans g21
  have i24 := (hs3.slot 24 (by decide)).trans g24
  have i25 := (hs3.slot 25 (by decide)).trans g25
  have D3 := D2.same hs3
  cases un with
  | false =>
    rw [if_neg (by simp)] at H2
    refine dunq (m := m) (uq := false) (I := I) (acc := acc) (lim := lim) (D3.ctx i25 i21) fun a4 hs4 => ?_
    have D4 := D3.same hs4
    have j21 := (hs4.slot 21 (by decide)).trans i21
    have j24 := (hs4.slot 24 (by decide)).trans i24
    have j25 := (hs4.slot 25 (by decide)).trans i25
    by_cases k3 : r = 65533
    · refine derr (uq := false) E (by omega) D4 hI k3 j24 j25 hs hp hl hfit hl4 fun a' w' D hI' => ?_
      exact H2 _ a' w' (.inl rfl) D (by simpa [k3] using hI')
    · refine dstay E.env (by omega) (D4.ctx j25 j21) hI hr0 hr1 k3 fun a' w' hs' hI' => ?_
      exact H2 _ a' w' (.inr rfl) (D4.same hs') (by simpa [k3] using hI')
  | true =>
    refine dquf E.env hU (by omega) D3 hI hf i21 i24 i25 hp ?_ ?_
    · intro u hu a' w' hD' hI'
      rw [hu, if_pos ⟨rfl, hf, rfl⟩] at H2
      exact H2 _ a' w' (.inl rfl) hD' hI'
    · intro hu a4 w4 D4 j21 j24 j25 hI4
      rw [hu, if_neg (by simp)] at H2
      have hq : (acc ++ Lib.encodeRune 8219).length = acc.length + 3 := by rw [List.length_append, q_len]
      by_cases k3 : r = 65533
      · refine derr (uq := false) E (by omega) D4 hI4 k3 j24 j25 hs hp hl hfit hl4 fun a' w' D hI' => ?_
        exact H2 _ a' w' (.inl rfl) D (by simpa [k3] using hI')
      · refine dstay E.env (by omega) (D4.ctx j25 j21) hI4 hr0 hr1 k3 fun a' w' hs' hI' => ?_
        exact H2 _ a' w' (.inr rfl) (D4.same hs') (by simpa [k3] using hI')
end Go.Proofs.YtlgoghonnnobfaaDoor.Dec
