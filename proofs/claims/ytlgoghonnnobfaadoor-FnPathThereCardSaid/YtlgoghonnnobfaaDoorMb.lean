/- MultiEncoder.Encode, the whole of it. -/
import Derived.Test.YtlgoghonnnobfaaDoorMa
import Derived.Test.YtlgoghonnnobfaaDoorShelf
import Derived.IntWalk
import Derived.RegionTactic
import Derived.RegionCalls
import Derived.Deep.RegionWith
import Derived.Deep.QuietTactic
import Derived.BigQuiet
import Derived.StillTailTactics
import Derived.Lib.ConvBytes
import Derived.Deep.Draws
import Derived.Deep.LoopGhost
import Derived.Laws.Slices
import Derived.Lib.SmallJoins
import Derived.Deep.Quiet
namespace Go.Proofs.YtlgoghonnnobfaaDoor.Enc
open Go Go.RowKit Go.Proofs.YtlgoghonnnobfaaDoor.Fr
set_option linter.unusedVariables false
set_option linter.unusedSimpArgs false
/-! ### a round of the encoder -/
structure LC (s suf : ByteArray) (pm pb pit : Addr) (a : Act) : Prop where
  size : a.tmps.size = 602
  s1 : a.eval (.tmp 1) = .string s
  s2 : a.eval (.tmp 2) = .pointer (some pm)
  s15 : a.eval (.tmp 15) = .string suf
  s24 : a.eval (.tmp 24) = .pointer (some pb)
  s278 : a.eval (.tmp 278) = .pointer (some pit)
  defers : a.defers = []
section
variable {s suf : ByteArray} {pm pb pit : Addr} {a a' : Act}
theorem LC.put (h : LC s suf pm pb pit a) (d : Nat) (v : Value) (h1 : 1 ≠ d ∧ 2 ≠ d ∧ 15 ≠ d ∧ 24 ≠ d ∧ 278 ≠ d) : LC s suf pm pb pit (a.put (some d) v) :=
  ⟨(size_put _ _ _).trans h.size, (eval_other _ _ _ _ h1.1).trans h.s1, (eval_other _ _ _ _ h1.2.1).trans h.s2, (eval_other _ _ _ _ h1.2.2.1).trans h.s15, (eval_other _ _ _ _ h1.2.2.2.1).trans h.s24, (eval_other _ _ _ _ h1.2.2.2.2).trans h.s278, (defers_put _ _ _).trans h.defers⟩
theorem LC.same {hi : Nat} (h : LC s suf pm pb pit a) (hs : Same 279 hi a a') : LC s suf pm pb pit a' :=
  ⟨hs.size.trans h.size, (hs.slot 1 (by omega)).trans h.s1, (hs.slot 2 (by omega)).trans h.s2, (hs.slot 15 (by omega)).trans h.s15, (hs.slot 24 (by omega)).trans h.s24, (hs.slot 278 (by omega)).trans h.s278, hs.defers.trans h.defers⟩
theorem LC.ctx {r : Int} (h : LC s suf pm pb pit a) (hr : a.eval (.tmp 26) = .int .i32 r) : Ctx 602 pm pb r a := ⟨h.size, h.s2, hr, h.s24⟩
end
/-- What the rounds ask of the world besides. -/
structure Env2 (lim : Nat) (m : Int) (pm pb : Addr) (I : List UInt8 → World → Prop) : Prop where
  env : Env lim m pm pb I
  dec : ∀ acc w t, I acc w → Calls Tryd.prog 41 #[.string t] w fun e w' => e = .returned (.tuple #[.int .i32 ((Lib.decodeGo t).1 : Int), .int .i64 ((Lib.decodeGo t).2 : Int)]) ∧ I acc w'
  text : ∀ acc w (t : ByteArray), acc.length + t.size ≤ lim + 4 → I acc w → Calls Tryd.prog 46 #[.pointer (some pb), .string t] w fun e w' => ∃ v, e = .returned v ∧ I (acc ++ t.data.toList) w'
  quote : ∀ acc w b, acc.length ≤ lim → I acc w → Calls Tryd.prog 48 #[.iface 64 (.pointer (some pb)), .string ⟨#[b]⟩] w fun e w' => ∃ v, e = .returned v ∧ I (acc ++ quoted b) w'
theorem enters41 : Enters Tryd.prog 41 := enters_of Tryd.func41 (by kernel_rfl) rfl
theorem enters46 : Enters Tryd.prog 46 := enters_of Tryd.func46 (by kernel_rfl) rfl
theorem enters48 : Enters Tryd.prog 48 := enters_of Tryd.func48 (by kernel_rfl) rfl
theorem go_tail (s : ByteArray) (pos : Nat) (h : pos < s.size) : Lib.decodeGo (s.extract pos s.size) = Utf8.decode s pos := by
  unfold Lib.decodeGo
  have h2 := Lib.tail_size s pos
  rw [if_neg (by omega), Lib.tail_decode]
  rfl
theorem r_dec {Q : Exit → Act → World → Prop} {s suf : ByteArray} {pm pb pit : Addr} {a : Act} {w : World} {m : Int} {I : List UInt8 → World → Prop} {acc : List UInt8} {lim pos id y z : Nat} {p0 p1 p2 p3 p4 p5 p6 p7 p8 : String} {f0 f1 f2 f3 f4 f5 f6 f7 f8 : Array Edge} (E : Env2 lim m pm pb I) (hA : LC s suf pm pb pit a)
    (h25 : a.eval (.tmp 25) = .int .i64 (pos : Int)) (hI : I acc w) (hp : pos < s.size) (hy : 278 < y) (hy2 : y + 6 < 602) (hz' : z = 27 ∨ z = 29)
    (H : ∀ a' w', LC s suf pm pb pit a' → a'.eval (.tmp 25) = .int .i64 (pos : Int) → a'.eval (.tmp (z + 1)) = .int .i64 ((Lib.decodeGo (s.extract pos s.size)).2 : Int) → I acc w' → Q .normal a' w') :
    (Code.region id #[{ dst := some (y + 1), op := .move (.tmp 1), type := 9, pos := p0, after := f0, guard := none }, { dst := some (y + 2), op := .move (.tmp 25), type := 3, pos := p1, after := f1, guard := none }, { dst := some (y + 3), op := .slice 9 (.tmp (y + 1)) (some (.tmp (y + 2))) none none, type := 9, pos := p2, after := f2, guard := none },
      { dst := some (y + 4), op := .call { callee := .value (.func 41), args := #[.tmp (y + 3)], argTypes := #[9] }, type := 49, pos := p3, after := f3, guard := none }, { dst := some y, op := .move (.tmp (y + 4)), type := 49, pos := p4, after := f4, guard := none }, { dst := some (y + 5), op := .extract (.tmp y) 0, type := 21, pos := p5, after := f5, guard := none },
      { dst := some (y + 6), op := .extract (.tmp y) 1, type := 3, pos := p6, after := f6, guard := none }, { dst := some z, op := .assign (.tmp (y + 5)), type := 21, pos := p7, after := f7, guard := none }, { dst := some (z + 1), op := .assign (.tmp (y + 6)), type := 3, pos := p8, after := f8, guard := none }] false).wp Tryd.prog Q a w := by
  have hz := hA.size
  refine wp_region_lit ?_
  refine Fr.move ?_
  rw [hA.s1]
  refine Fr.move ?_
  rw [eval_other _ _ _ _ (show 25 ≠ y + 1 by omega), h25]
  refine Fr.step rfl (run_from (i := pos) Tryd.underlying9 (s := s) (by rw [eval_other _ _ _ _ (by omega)]; exact eval_same _ _ _ (by omega)) (eval_same _ _ _ (by rw [size_put]; omega)) (by omega)) ?_
  refine call enters41 ?_
  have e : ∀ b : Act, b.tmps.size = 602 → (#[Operand.tmp (y + 3)]).map (b.put (some (y + 3)) (.string (s.extract pos s.size))).eval = #[.string (s.extract pos s.size)] := by
    intro b hb
    simp [eval_same _ _ _ (show y + 3 < b.tmps.size by omega)]
  rw [e _ (by rw [size_put, size_put]; exact hz)]
  refine (E.dec acc w _ hI).mono ?_
  rintro e w' ⟨rfl, hI'⟩
  refine ⟨_, rfl, ?_⟩
  have hB := ((hA.put (y + 1) (.string s) (by omega)).put (y + 2) (.int .i64 (pos : Int)) (by omega)).put (y + 3) (.string (s.extract pos s.size)) (by omega)
  have hB := hB.put (y + 4) (.tuple #[.int .i32 ((Lib.decodeGo (s.extract pos s.size)).1 : Int), .int .i64 ((Lib.decodeGo (s.extract pos s.size)).2 : Int)]) (by omega)
  have b25 : ((((a.put (some (y + 1)) (.string s)).put (some (y + 2)) (.int .i64 (pos : Int))).put (some (y + 3)) (.string (s.extract pos s.size))).put (some (y + 4)) (.tuple #[.int .i32 ((Lib.decodeGo (s.extract pos s.size)).1 : Int), .int .i64 ((Lib.decodeGo (s.extract pos s.size)).2 : Int)])).eval (.tmp 25) = .int .i64 (pos : Int) := by
    rw [eval_other _ _ _ _ (by omega), eval_other _ _ _ _ (by omega), eval_other _ _ _ _ (by omega), eval_other _ _ _ _ (by omega)]; exact h25
  have b4 := eval_same (((a.put (some (y + 1)) (.string s)).put (some (y + 2)) (.int .i64 (pos : Int))).put (some (y + 3)) (.string (s.extract pos s.size))) (y + 4) (.tuple #[.int .i32 ((Lib.decodeGo (s.extract pos s.size)).1 : Int), .int .i64 ((Lib.decodeGo (s.extract pos s.size)).2 : Int)]) (by rw [size_put, size_put, size_put]; omega)
  generalize (((a.put (some (y + 1)) (.string s)).put (some (y + 2)) (.int .i64 (pos : Int))).put (some (y + 3)) (.string (s.extract pos s.size))).put (some (y + 4)) (.tuple #[.int .i32 ((Lib.decodeGo (s.extract pos s.size)).1 : Int), .int .i64 ((Lib.decodeGo (s.extract pos s.size)).2 : Int)]) = b at hB b25 b4
  have hzb := hB.size
  refine Fr.move ?_
  rw [b4]
  refine Fr.step rfl (run_extract (v := .int .i32 ((Lib.decodeGo (s.extract pos s.size)).1 : Int)) (eval_same _ _ _ (by omega)) (by rfl)) ?_
  refine Fr.step rfl (run_extract (vs := #[.int .i32 ((Lib.decodeGo (s.extract pos s.size)).1 : Int), .int .i64 ((Lib.decodeGo (s.extract pos s.size)).2 : Int)]) (v := .int .i64 ((Lib.decodeGo (s.extract pos s.size)).2 : Int)) (by rw [eval_other _ _ _ _ (by omega)]; exact eval_same _ _ _ (by omega)) (by rfl)) ?_
  refine assign ?_
  refine assign ?_
  refine wpList_nil ?_
  refine H _ _ ((((( hB.put _ _ (by omega)).put _ _ (by omega)).put _ _ (by omega)).put _ _ (by omega)).put _ _ (by omega)) ?_ ?_ hI'
  · rw [eval_other _ _ _ _ (by omega), eval_other _ _ _ _ (by omega), eval_other _ _ _ _ (by omega), eval_other _ _ _ _ (by omega), eval_other _ _ _ _ (by omega)]; exact b25
  · rw [eval_same _ _ _ (by rw [size_put, size_put, size_put, size_put]; omega), eval_other _ _ _ _ (by omega), eval_same _ _ _ (by rw [size_put, size_put]; omega)]
/-- A byte that is no part of UTF-8 stands at a place at which U+FFFD is read. -/
def isBad (s : ByteArray) (pos : Nat) : Bool := !(decide ((s.get! pos).toNat = 239) && decide ((s.get! (pos + 1)).toNat = 191) && decide ((s.get! (pos + 2)).toNat = 189) && decide (pos + 3 ≤ s.size))
set_option maxHeartbeats 1000000 in
theorem r_bad {Q : Exit → Act → World → Prop} {s suf : ByteArray} {pm pb pit : Addr} {a : Act} {w : World} {pos id : Nat} {p0 p1 p2 p3 p4 p5 p6 p7 p8 p9 p10 p11 p12 : String} {f0 f1 f2 f3 f4 f5 f6 f7 f8 f9 f10 f11 f12 : Array Edge} (hA : LC s suf pm pb pit a) (h25 : a.eval (.tmp 25) = .int .i64 (pos : Int)) (hs : s.size ≤ 140737488355328) (hp : pos < s.size)
    (H : ∀ a', Same 279 598 a a' → a'.eval (.tmp 309) = .bool (isBad s pos) → Q .normal a' w) :
    (Code.region id #[{ dst := some 297, op := Op.move (Operand.tmp 25), type := 3, pos := p0, after := f0, guard := none }, { dst := some 298, op := Op.binOp BinOp.add 3 (Operand.tmp 297) (Operand.const (Value.int IntKind.i64 3)) 3, type := 3, pos := p1, after := f1, guard := none }, { dst := some 299, op := Op.move (Operand.tmp 1), type := 9, pos := p2, after := f2, guard := none }, { dst := some 300, op := Op.call { callee := Callee.builtin Builtin.len, args := #[Operand.tmp 299], argTypes := #[9] }, type := 3, pos := p3, after := f3, guard := none }, { dst := some 301, op := Op.binOp BinOp.gtr 3 (Operand.tmp 298) (Operand.tmp 300) 3, type := 4, pos := p4, after := f4, guard := none }, { dst := some 302, op := Op.move (Operand.tmp 301), type := 4, pos := p5, after := f5, guard := none }, { dst := some 303, op := Op.move (Operand.tmp 1), type := 9, pos := p6, after := f6, guard := some (5, false) }, { dst := some 304, op := Op.move (Operand.tmp 25), type := 3, pos := p7, after := f7, guard := some (5, false) }, { dst := some 305, op := Op.move (Operand.tmp 25), type := 3, pos := p8, after := f8, guard := some (5, false) }, { dst := some 306, op := Op.binOp BinOp.add 3 (Operand.tmp 305) (Operand.const (Value.int IntKind.i64 3)) 3, type := 3, pos := p9, after := f9, guard := some (5, false) }, { dst := some 307, op := Op.slice 9 (Operand.tmp 303) (some (Operand.tmp 304)) (some (Operand.tmp 306)) none, type := 9, pos := p10, after := f10, guard := some (5, false) }, { dst := some 308, op := Op.binOp BinOp.neq 9 (Operand.tmp 307) (Operand.const (Value.string { data := #[239, 191, 189] })) 9, type := 4, pos := p11, after := f11, guard := some (5, false) }, { dst := some 309, op := Op.pick (Operand.tmp 302) (Operand.const (Value.bool true)) (Operand.tmp 308), type := 4, pos := p12, after := f12, guard := none }] false).wp Tryd.prog Q a w := by
  have hz := hA.size
  have hw : IntKind.i64.wrap ((pos : Int) + 3) = ((pos + 3 : Nat) : Int) := by rw [IntWalk.i64_in _ (by omega)]; simp
  refine wp_region_lit ?_
  refine Fr.move ?_
  refine Fr.step rfl (run_addi (m := (pos : Int)) (n := 3) Tryd.underlying3 (by simp [eval_other, eval_same, size_put, hz, eval_const, h25, hA.s1, hA.s24]) rfl) ?_
  rw [hw]
  refine Fr.move ?_
  refine Fr.step rfl (run_len (s := s) Tryd.underlying9 (by simp [eval_other, eval_same, size_put, hz, eval_const, h25, hA.s1, hA.s24])) ?_
  refine Fr.step rfl (run_gtr (m := ((pos + 3 : Nat) : Int)) (n := (s.size : Int)) Tryd.underlying3 (by simp [eval_other, eval_same, size_put, hz, eval_const, h25, hA.s1, hA.s24]) (by simp [eval_other, eval_same, size_put, hz, eval_const, h25, hA.s1, hA.s24])) ?_
  refine Fr.move ?_
  have S1 : Same 279 598 a ((((((a.put (some 297) (a.eval (.tmp 25))).put (some 298) (.int .i64 ((pos + 3 : Nat) : Int))).put (some 299) (((a.put (some 297) (a.eval (.tmp 25))).put (some 298) (.int .i64 ((pos + 3 : Nat) : Int))).eval (.tmp 1))).put (some 300) (.int .i64 (s.size : Int))).put (some 301) (.bool (decide ((s.size : Int) < ((pos + 3 : Nat) : Int))))).put (some 302) (.bool (decide ((s.size : Int) < ((pos + 3 : Nat) : Int))))) :=
    ((((((Same.refl a).put _ _ (by decide) (by decide)).put _ _ (by decide) (by decide)).put _ _ (by decide) (by decide)).put _ _ (by decide) (by decide)).put _ _ (by decide) (by decide)).put _ _ (by decide) (by decide)
  rw [show (((((a.put (some 297) (a.eval (.tmp 25))).put (some 298) (.int .i64 ((pos + 3 : Nat) : Int))).put (some 299) (((a.put (some 297) (a.eval (.tmp 25))).put (some 298) (.int .i64 ((pos + 3 : Nat) : Int))).eval (.tmp 1))).put (some 300) (.int .i64 (s.size : Int))).put (some 301) (.bool (decide ((s.size : Int) < ((pos + 3 : Nat) : Int))))).eval (.tmp 301) = .bool (decide ((s.size : Int) < ((pos + 3 : Nat) : Int))) from eval_same _ _ _ (by simp [size_put, hz])]
  have e302 := eval_same ((((((a.put (some 297) (a.eval (.tmp 25))).put (some 298) (.int .i64 ((pos + 3 : Nat) : Int))).put (some 299) (((a.put (some 297) (a.eval (.tmp 25))).put (some 298) (.int .i64 ((pos + 3 : Nat) : Int))).eval (.tmp 1))).put (some 300) (.int .i64 (s.size : Int))).put (some 301) (.bool (decide ((s.size : Int) < ((pos + 3 : Nat) : Int)))))) 302 (.bool (decide ((s.size : Int) < ((pos + 3 : Nat) : Int)))) (by simp [size_put, hz])
  generalize ((((((a.put (some 297) (a.eval (.tmp 25))).put (some 298) (.int .i64 ((pos + 3 : Nat) : Int))).put (some 299) (((a.put (some 297) (a.eval (.tmp 25))).put (some 298) (.int .i64 ((pos + 3 : Nat) : Int))).eval (.tmp 1))).put (some 300) (.int .i64 (s.size : Int))).put (some 301) (.bool (decide ((s.size : Int) < ((pos + 3 : Nat) : Int))))).put (some 302) (.bool (decide ((s.size : Int) < ((pos + 3 : Nat) : Int))))) = b at S1 e302
  have hB := hA.same S1
  have b25 := (S1.slot 25 (by decide)).trans h25
  have hzb := hB.size
  by_cases hlt : pos + 3 ≤ s.size
  · have hd : decide ((s.size : Int) < ((pos + 3 : Nat) : Int)) = false := decide_eq_false (by omega)
    rw [hd] at e302
    refine guard_yes (j := 5) (b := false) (d := 302) rfl rfl (by omega) e302 rfl ?_
    refine guard_yes (j := 5) (b := false) (d := 302) rfl rfl (by simp [size_put, hzb]) (by simp [eval_other, e302]) rfl ?_
    refine guard_yes (j := 5) (b := false) (d := 302) rfl rfl (by simp [size_put, hzb]) (by simp [eval_other, e302]) rfl ?_
    refine guard_yes (j := 5) (b := false) (d := 302) rfl rfl (by simp [size_put, hzb]) (by simp [eval_other, e302]) (run_addi (m := (pos : Int)) (n := 3) Tryd.underlying3 (by simp [eval_other, eval_same, size_put, hzb, b25]) rfl) ?_
    rw [hw]
    refine guard_yes (j := 5) (b := false) (d := 302) rfl rfl (by simp [size_put, hzb]) (by simp [eval_other, e302]) (run_sub (s := s) (i := pos) (j := pos + 3) Tryd.underlying9 (by simp [eval_other, eval_same, size_put, hzb, hB.s1]) (by simp [eval_other, eval_same, size_put, hzb, b25]) (eval_same _ _ _ (by simp [size_put, hzb])) (by omega) hlt) ?_
    refine guard_yes (j := 5) (b := false) (d := 302) rfl rfl (by simp [size_put, hzb]) (by simp [eval_other, e302]) (run_neqs (s1 := s.extract pos (pos + 3)) (s2 := ⟨#[239, 191, 189]⟩) Tryd.underlying9 (eval_same _ _ _ (by simp [size_put, hzb])) rfl) ?_
    refine Fr.step rfl (run_pick (b := false) (by simp [eval_other, e302])) ?_
    rw [if_neg (by decide), eval_same _ _ _ (by simp [size_put, hzb])]
    refine wpList_nil ?_
    refine H _ (S1.trans ((((((((Same.refl b).put _ _ (by decide) (by decide)).put _ _ (by decide) (by decide)).put _ _ (by decide) (by decide)).put _ _ (by decide) (by decide)).put _ _ (by decide) (by decide)).put _ _ (by decide) (by decide)).put _ _ (by decide) (by decide))) ?_
    rw [eval_same _ _ _ (by simp [size_put, hzb])]
    have ho := own_err s pos hlt
    have e3 : (⟨#[239, 191, 189]⟩ : ByteArray).toList = [239, 191, 189] := by rw [Lib.toList_data]
    rw [e3, bne, ho]
    simp [isBad, hlt, Bool.and_assoc]
  · have hd : decide ((s.size : Int) < ((pos + 3 : Nat) : Int)) = true := decide_eq_true (by omega)
    rw [hd] at e302
    refine guard_no (j := 5) (b := false) (c := true) (d := 302) rfl rfl (by omega) e302 (by decide) ?_
    refine guard_no (j := 5) (b := false) (c := true) (d := 302) rfl rfl (by simp [size_put, hzb]) (by simp [eval_other, e302]) (by decide) ?_
    refine guard_no (j := 5) (b := false) (c := true) (d := 302) rfl rfl (by simp [size_put, hzb]) (by simp [eval_other, e302]) (by decide) ?_
    refine guard_no (j := 5) (b := false) (c := true) (d := 302) rfl rfl (by simp [size_put, hzb]) (by simp [eval_other, e302]) (by decide) ?_
    refine guard_no (j := 5) (b := false) (c := true) (d := 302) rfl rfl (by simp [size_put, hzb]) (by simp [eval_other, e302]) (by decide) ?_
    refine guard_no (j := 5) (b := false) (c := true) (d := 302) rfl rfl (by simp [size_put, hzb]) (by simp [eval_other, e302]) (by decide) ?_
    refine Fr.step rfl (run_pick (b := true) (by simp [eval_other, e302])) ?_
    rw [if_pos rfl, eval_const]
    refine wpList_nil ?_
    refine H _ (S1.trans ((((((((Same.refl b).put _ _ (by decide) (by decide)).put _ _ (by decide) (by decide)).put _ _ (by decide) (by decide)).put _ _ (by decide) (by decide)).put _ _ (by decide) (by decide)).put _ _ (by decide) (by decide)).put _ _ (by decide) (by decide))) ?_
    rw [eval_same _ _ _ (by simp [size_put, hzb])]
    simp [isBad, hlt]
theorem r_quote {Q : Exit → Act → World → Prop} {s suf : ByteArray} {pm pb pit : Addr} {a : Act} {w : World} {m : Int} {I : List UInt8 → World → Prop} {acc : List UInt8} {lim pos l id : Nat} {p0 p1 p2 p3 p4 p5 p6 p7 : String} {f0 f1 f2 f3 f4 f5 f6 f7 : Array Edge} (E : Env2 lim m pm pb I) (hA : LC s suf pm pb pit a) (h25 : a.eval (.tmp 25) = .int .i64 (pos : Int)) (h28 : a.eval (.tmp 28) = .int .i64 (l : Int)) (hs : s.size ≤ 140737488355328) (hp : pos < s.size) (hl : l = 1) (hL : acc.length ≤ lim) (hI : I acc w)
    (H : ∀ a' w', LC s suf pm pb pit a' → I (acc ++ quoted (s.get! pos)) w' → Q .normal a' w') :
    (Code.region id #[{ dst := some 317, op := Op.makeInterface 64 (Operand.tmp 24), type := 81, pos := p0, after := f0, guard := none }, { dst := some 318, op := Op.move (Operand.tmp 1), type := 9, pos := p1, after := f1, guard := none }, { dst := some 319, op := Op.move (Operand.tmp 25), type := 3, pos := p2, after := f2, guard := none }, { dst := some 320, op := Op.move (Operand.tmp 25), type := 3, pos := p3, after := f3, guard := none }, { dst := some 321, op := Op.move (Operand.tmp 28), type := 3, pos := p4, after := f4, guard := none }, { dst := some 322, op := Op.binOp BinOp.add 3 (Operand.tmp 320) (Operand.tmp 321) 3, type := 3, pos := p5, after := f5, guard := none }, { dst := some 323, op := Op.slice 9 (Operand.tmp 318) (some (Operand.tmp 319)) (some (Operand.tmp 322)) none, type := 9, pos := p6, after := f6, guard := none }, { dst := some 324, op := Op.call { callee := Callee.value (Operand.func 48), args := #[Operand.tmp 317, Operand.tmp 323], argTypes := #[81, 9] }, type := 0, pos := p7, after := f7, guard := none }] false).wp Tryd.prog Q a w := by
  have hz := hA.size
  subst hl
  have hw : IntKind.i64.wrap ((pos : Int) + ((1 : Nat) : Int)) = ((pos + 1 : Nat) : Int) := by rw [IntWalk.i64_in _ (by omega)]; simp
  refine wp_region_lit ?_
  refine Fr.step rfl (run_mk (v := .pointer (some pb)) Tryd.underlying64 hA.s24) ?_
  refine Fr.move ?_
  refine Fr.move ?_
  refine Fr.move ?_
  refine Fr.move ?_
  refine Fr.step rfl (run_addi (m := (pos : Int)) (n := ((1 : Nat) : Int)) Tryd.underlying3 (by simp [eval_other, eval_same, size_put, hz, eval_const, h25, h28, hA.s1, hA.s24]) (by simp [eval_other, eval_same, size_put, hz, eval_const, h25, h28, hA.s1, hA.s24])) ?_
  rw [hw]
  refine Fr.step rfl (run_sub (s := s) (i := pos) (j := pos + 1) Tryd.underlying9 (by simp [eval_other, eval_same, size_put, hz, eval_const, h25, h28, hA.s1, hA.s24]) (by simp [eval_other, eval_same, size_put, hz, eval_const, h25, h28, hA.s1, hA.s24]) (eval_same _ _ _ (by simp [size_put, hz])) (by omega) (by omega)) ?_
  refine call enters48 ?_
  have e : ∀ b : Act, b.tmps.size = 602 → b.eval (.tmp 317) = .iface 64 (.pointer (some pb)) → (#[Operand.tmp 317, .tmp 323]).map (b.put (some 323) (.string (s.extract pos (pos + 1)))).eval = #[.iface 64 (.pointer (some pb)), .string ⟨#[s.get! pos]⟩] := by
    intro b hb h317
    have he : s.extract pos (pos + 1) = ⟨#[s.get! pos]⟩ := by
      have := ext_list s pos 1 (by omega)
      rw [Lib.toList_data] at this
      exact ByteArray.ext (Array.ext' (by rw [this]; rfl))
    simp [eval_same _ _ _ (show 323 < b.tmps.size by omega), eval_other _ 323 317 _ (by decide), h317, he]
  rw [e _ (by simp [size_put, hz]) (by simp [eval_other, eval_same, size_put, hz])]
  refine (E.quote acc w _ hL hI).mono ?_
  rintro e w' ⟨v, rfl, hI'⟩
  refine ⟨_, rfl, wpList_nil (H _ _ ?_ hI')⟩
  exact (((((((hA.put _ _ (by decide)).put _ _ (by decide)).put _ _ (by decide)).put _ _ (by decide)).put _ _ (by decide)).put _ _ (by decide)).put _ _ (by decide)).put _ _ (by decide)
theorem r_text {Q : Exit → Act → World → Prop} {s suf : ByteArray} {pm pb pit : Addr} {a : Act} {w : World} {m : Int} {I : List UInt8 → World → Prop} {acc : List UInt8} {lim pos l id : Nat} {p0 p1 p2 p3 p4 p5 p6 : String} {f0 f1 f2 f3 f4 f5 f6 : Array Edge} (E : Env2 lim m pm pb I) (hA : LC s suf pm pb pit a) (h25 : a.eval (.tmp 25) = .int .i64 (pos : Int)) (h30 : a.eval (.tmp 30) = .int .i64 (l : Int)) (hs : s.size ≤ 140737488355328) (hp : pos < s.size) (hl : pos + l ≤ s.size) (hL : acc.length + l ≤ lim + 4) (hI : I acc w)
    (H : ∀ a' w', LC s suf pm pb pit a' → I (acc ++ (s.extract pos (pos + l)).toList) w' → Q .normal a' w') :
    (Code.region id #[{ dst := some 332, op := Op.move (Operand.tmp 1), type := 9, pos := p0, after := f0, guard := none }, { dst := some 333, op := Op.move (Operand.tmp 25), type := 3, pos := p1, after := f1, guard := none }, { dst := some 334, op := Op.move (Operand.tmp 25), type := 3, pos := p2, after := f2, guard := none }, { dst := some 335, op := Op.move (Operand.tmp 30), type := 3, pos := p3, after := f3, guard := none }, { dst := some 336, op := Op.binOp BinOp.add 3 (Operand.tmp 334) (Operand.tmp 335) 3, type := 3, pos := p4, after := f4, guard := none }, { dst := some 337, op := Op.slice 9 (Operand.tmp 332) (some (Operand.tmp 333)) (some (Operand.tmp 336)) none, type := 9, pos := p5, after := f5, guard := none }, { dst := some 338, op := Op.call { callee := Callee.value (Operand.func 46), args := #[Operand.tmp 24, Operand.tmp 337], argTypes := #[56, 9] }, type := 60, pos := p6, after := f6, guard := none }] false).wp Tryd.prog Q a w := by
  have hz := hA.size
  have hw : IntKind.i64.wrap ((pos : Int) + (l : Int)) = ((pos + l : Nat) : Int) := by rw [IntWalk.i64_in _ (by omega)]; simp
  refine wp_region_lit ?_
  refine Fr.move ?_
  refine Fr.move ?_
  refine Fr.move ?_
  refine Fr.move ?_
  refine Fr.step rfl (run_addi (m := (pos : Int)) (n := (l : Int)) Tryd.underlying3 (by simp [eval_other, eval_same, size_put, hz, eval_const, h25, h30, hA.s1, hA.s24]) (by simp [eval_other, eval_same, size_put, hz, eval_const, h25, h30, hA.s1, hA.s24])) ?_
  rw [hw]
  refine Fr.step rfl (run_sub (s := s) (i := pos) (j := pos + l) Tryd.underlying9 (by simp [eval_other, eval_same, size_put, hz, eval_const, h25, h30, hA.s1, hA.s24]) (by simp [eval_other, eval_same, size_put, hz, eval_const, h25, h30, hA.s1, hA.s24]) (eval_same _ _ _ (by simp [size_put, hz])) (by omega) (by omega)) ?_
  refine call enters46 ?_
  have e : ∀ b : Act, b.tmps.size = 602 → b.eval (.tmp 24) = .pointer (some pb) → (#[Operand.tmp 24, .tmp 337]).map (b.put (some 337) (.string (s.extract pos (pos + l)))).eval = #[.pointer (some pb), .string (s.extract pos (pos + l))] := by
    intro b hb h24
    simp [eval_same _ _ _ (show 337 < b.tmps.size by omega), eval_other _ 337 24 _ (by decide), h24]
  rw [e _ (by simp [size_put, hz]) (by simp [eval_other, eval_same, size_put, hz, hA.s24])]
  have hsz : (s.extract pos (pos + l)).size = l := by simp [ByteArray.size_extract]; omega
  refine (E.text acc w _ (by rw [hsz]; exact hL) hI).mono ?_
  rintro e w' ⟨v, rfl, hI'⟩
  rw [← Lib.toList_data] at hI'
  refine ⟨_, rfl, wpList_nil (H _ _ ?_ hI')⟩
  exact ((((((hA.put _ _ (by decide)).put _ _ (by decide)).put _ _ (by decide)).put _ _ (by decide)).put _ _ (by decide)).put _ _ (by decide)).put _ _ (by decide)
theorem by_none {m r : Int} : ∀ {l : List Bit}, (∀ b ∈ l, r ∉ b.cs ∧ r ∉ b.ds) → by' m r l = Lib.encodeRune r
  | [], _ => rfl
  | b :: l, h => by
    rw [by', if_neg (fun hh => (h b (by simp)).1 hh.2), if_neg (fun hh => (h b (by simp)).2 hh.2)]
    exact by_none fun c hc => h c (by simp [hc])
theorem err_stays (m : Int) : by' m ((65533 : Nat) : Int) bits = [239, 191, 189] := by
  rw [by_none (by decide)]; decide
theorem err_bytes (s : ByteArray) (pos : Nat) (h0 : (s.get! pos).toNat = 239) (h1 : (s.get! (pos + 1)).toNat = 191) (h2 : (s.get! (pos + 2)).toNat = 189) : (List.range 3).map (fun k => s.get! (pos + k)) = [239, 191, 189] := by
  have e : (List.range 3).map (fun k => s.get! (pos + k)) = [s.get! pos, s.get! (pos + 1), s.get! (pos + 2)] := rfl
  rw [e]
  have a0 : s.get! pos = 239 := UInt8.toNat_inj.1 h0
  have a1 : s.get! (pos + 1) = 191 := UInt8.toNat_inj.1 h1
  have a2 : s.get! (pos + 2) = 189 := UInt8.toNat_inj.1 h2
  rw [a0, a1, a2]
def unitOf (m : Int) (b : UInt8) (r l : Nat) : List UInt8 :=
  if r = 0 then Lib.encodeRune 9216
  else if r = 9216 ∨ r = 8219 then Lib.encodeRune 8219 ++ Lib.encodeRune r
  else if r = 65533 ∧ l = 1 then (if hb m 16777216 = true then quoted b else [b])
  else by' m r bits
set_option maxRecDepth 100000 in
set_option maxHeartbeats 2000000 in
theorem unit_walk {Q : Exit → Act → World → Prop} {s suf : ByteArray} {pm pb pit : Addr} {a : Act} {w : World} {m : Int} {I : List UInt8 → World → Prop} {acc : List UInt8} {lim pos : Nat} (E : Env2 lim m pm pb I) (hL : acc.length + 8 ≤ lim) (hA : LC s suf pm pb pit a)
    (h279 : a.eval (.tmp 279) = .tuple #[.bool true, .int .i64 (pos : Int), .int .i32 ((Utf8.decode s pos).1 : Int)]) (hI : I acc w) (hp : pos < s.size) (hs : s.size ≤ 140737488355328)
    (H : ∀ a' w', LC s suf pm pb pit a' → I (acc ++ unit m s pos) w' → Q .normal a' w') :
    (piece [1, 1, 1, 1, 1, 1, 1, 1, 1, 1, 1, 1, 1, 1, 1, 1, 1, 1, 1, 0, 1, 0, 0, 1, 1] (Tryd.f29.body.getD .skip)).wp Tryd.prog Q a w := by
  have hz := hA.size
  conv => arg 2; whnf
  refine wp_block ?_
  refine wp_seq ?_
  refine wp_region_lit ?_
  refine Fr.step rfl (run_extract (v := .int .i64 (pos : Int)) h279 (by rfl)) ?_
  refine Fr.step rfl (run_extract (vs := #[.bool true, .int .i64 (pos : Int), .int .i32 ((Utf8.decode s pos).1 : Int)]) (v := .int .i32 ((Utf8.decode s pos).1 : Int)) (by rw [← h279]; exact eval_other _ _ _ _ (by decide)) (by rfl)) ?_
  refine assign ?_
  refine assign ?_
  refine wpList_nil ?_
  show Code.wp _ _ _ _ _
  rw [show ((a.put (some 281) (.int .i64 (pos : Int))).put (some 282) (.int .i32 ((Utf8.decode s pos).1 : Int))).eval (.tmp 281) = .int .i64 (pos : Int) from by simp [eval_other, eval_same, size_put, hz, eval_const]]
  rw [show (((a.put (some 281) (.int .i64 (pos : Int))).put (some 282) (.int .i32 ((Utf8.decode s pos).1 : Int))).put (some 25) (.int .i64 (pos : Int))).eval (.tmp 282) = .int .i32 ((Utf8.decode s pos).1 : Int) from by simp [eval_other, eval_same, size_put, hz, eval_const]]
  have hA1 := (((hA.put 281 (.int .i64 (pos : Int)) (by decide)).put 282 (.int .i32 ((Utf8.decode s pos).1 : Int)) (by decide)).put 25 (.int .i64 (pos : Int)) (by decide)).put 26 (.int .i32 ((Utf8.decode s pos).1 : Int)) (by decide)
  have e25 : ((((a.put (some 281) (.int .i64 (pos : Int))).put (some 282) (.int .i32 ((Utf8.decode s pos).1 : Int))).put (some 25) (.int .i64 (pos : Int))).put (some 26) (.int .i32 ((Utf8.decode s pos).1 : Int))).eval (.tmp 25) = .int .i64 (pos : Int) := by simp [eval_other, eval_same, size_put, hz, eval_const]
  have e26 : ((((a.put (some 281) (.int .i64 (pos : Int))).put (some 282) (.int .i32 ((Utf8.decode s pos).1 : Int))).put (some 25) (.int .i64 (pos : Int))).put (some 26) (.int .i32 ((Utf8.decode s pos).1 : Int))).eval (.tmp 26) = .int .i32 ((Utf8.decode s pos).1 : Int) := by simp [eval_other, eval_same, size_put, hz, eval_const]
  generalize ((((a.put (some 281) (.int .i64 (pos : Int))).put (some 282) (.int .i32 ((Utf8.decode s pos).1 : Int))).put (some 25) (.int .i64 (pos : Int))).put (some 26) (.int .i32 ((Utf8.decode s pos).1 : Int))) = a1 at hA1 e25 e26
  clear hz h279 hA a
  have hr1 : ((Utf8.decode s pos).1 : Int) ≤ 1114111 := by have := Lib.rune_le s pos; omega
  have hfit := dec_fit s pos hp
  have hun : unit m s pos = unitOf m (s.get! pos) (Utf8.decode s pos).1 (Utf8.decode s pos).2 := rfl
  have herr := dec_err s pos hp
  have hgo := go_tail s pos hp
  rw [hun] at H
  clear hun
  rcases hd : Utf8.decode s pos with ⟨r, l⟩
  rw [hd] at e26 hr1 hfit H herr hgo
  simp only at e26 hr1 hfit H herr hgo
  clear hd
  -- the switch
  refine wp_seq ?_
  refine wp_seq (r_move ?_)
  show Code.wp _ _ _ _ _
  rw [e26]
  have hz1 := hA1.size
  have e283 := eval_same a1 283 (.int .i32 (r : Int)) (by rw [hz1]; decide)
  have hA2 := hA1.put 283 (.int .i32 (r : Int)) (by decide)
  have e25' := (eval_other a1 283 25 (.int .i32 (r : Int)) (by decide)).trans e25
  have e26' := (eval_other a1 283 26 (.int .i32 (r : Int)) (by decide)).trans e26
  generalize a1.put (some 283) (.int .i32 (r : Int)) = a2 at e283 hA2 e25' e26'
  clear e25 e26 hA1 hz1 a1
  have hz := hA2.size
  refine wp_block ?_
  -- NUL
  refine wp_seq (r_eq (by rw [hz]; decide) e283 ?_)
  show Code.wp _ _ _ _ _
  refine wp_cond (eval_same _ _ _ (by rw [size_put, hz]; decide)) ?_
  have S0 : Same 279 598 a2 ((a2.put (some 285) (.bool ((r : Int) == 0))).put (some 284) (.bool ((r : Int) == 0))) := ((Same.refl a2).put _ _ (by decide) (by decide)).put _ _ (by decide) (by decide)
  have hA3 := hA2.same S0
  have x283 : ((a2.put (some 285) (.bool ((r : Int) == 0))).put (some 284) (.bool ((r : Int) == 0))).eval (.tmp 283) = .int .i32 (r : Int) := by rw [eval_other _ _ _ _ (by decide), eval_other _ _ _ _ (by decide)]; exact e283
  have x25 := (S0.slot 25 (by decide)).trans e25'
  have x26 := (S0.slot 26 (by decide)).trans e26'
  generalize (a2.put (some 285) (.bool ((r : Int) == 0))).put (some 284) (.bool ((r : Int) == 0)) = a3 at hA3 x283 x25 x26
  clear S0 e283 e25' e26' hz hA2 a2
  by_cases k0 : r = 0
  · rw [if_pos (by simp [k0])]
    refine wp_seq (r_wconst E.env (by omega) (hA3.ctx x26) hI (by decide) (by decide) fun v w' hI' => ?_)
    show Code.wp _ _ _ _ _
    refine wp_exit ?_
    show Q .normal _ _
    exact H _ _ (hA3.put _ _ (by decide)) (by rw [unitOf, if_pos k0]; exact hI')
  rw [if_neg (by simp; omega)]
  -- the quote, and NUL's sign
  refine wp_seq (r_or (lo := 279) (hi := 598) (by rw [hA3.size]; decide) (by decide) (by decide) x283 fun a4 S1 t4 y283 => ?_)
  show Code.wp _ _ _ _ _
  refine wp_cond t4 ?_
  have hA4 := hA3.same S1
  have y25 := (S1.slot 25 (by decide)).trans x25
  have y26 := (S1.slot 26 (by decide)).trans x26
  clear x283 x25 x26 S1 hA3
  by_cases k1 : r = 9216 ∨ r = 8219
  · rw [if_pos (by rcases k1 with rfl | rfl <;> rfl)]
    refine wp_seq (r_wconst E.env (by omega) (hA4.ctx y26) hI (by decide) (by decide) fun v w' hI' => ?_)
    show Code.wp _ _ _ _ _
    refine wp_seq (r_wmove E.env (by rw [List.length_append, len8219]; omega) ((hA4.put 290 v (by decide)).ctx ((eval_other _ _ _ _ (by decide)).trans y26)) hI' (by decide) (by decide) (by omega) (by omega) fun v2 w2 hI2 => ?_)
    show Code.wp _ _ _ _ _
    refine wp_exit ?_
    show Q .normal _ _
    exact H _ _ (((hA4.put _ _ (by decide)).put _ _ (by decide)).put _ _ (by decide)) (by rw [unitOf, if_neg k0, if_pos k1, ← List.append_assoc]; exact hI2)
  rw [if_neg (by simp; omega)]
  -- U+FFFD
  refine wp_seq (r_eq (by rw [hA4.size]; decide) y283 ?_)
  show Code.wp _ _ _ _ _
  refine wp_cond (eval_same _ _ _ (by rw [size_put, hA4.size]; decide)) ?_
  have S2 : Same 279 598 a4 ((a4.put (some 294) (.bool ((r : Int) == 65533))).put (some 293) (.bool ((r : Int) == 65533))) := ((Same.refl a4).put _ _ (by decide) (by decide)).put _ _ (by decide) (by decide)
  have hA5 := hA4.same S2
  have z25 := (S2.slot 25 (by decide)).trans y25
  have z26 := (S2.slot 26 (by decide)).trans y26
  generalize (a4.put (some 294) (.bool ((r : Int) == 65533))).put (some 293) (.bool ((r : Int) == 65533)) = a5 at hA5 z25 z26
  clear y283 y25 y26 S2 hA4 t4 a4
  by_cases k2 : r = 65533
  · rw [if_pos (by simp [k2])]
    have herr := herr k2
    refine wp_seq (r_has (by rw [hA5.size]; decide) hA5.s2 (E.env.cell _ _ hI) ?_)
    show Code.wp _ _ _ _ _
    refine wp_cond (eval_same _ _ _ (by rw [size_put, hA5.size]; decide)) ?_
    have S3 : Same 279 598 a5 ((a5.put (some 295) (.int .u64 m)).put (some (295 + 1)) (.bool (hb m 16777216))) := ((Same.refl a5).put _ _ (by decide) (by decide)).put _ _ (by decide) (by decide)
    have hA6 := hA5.same S3
    have v25 := (S3.slot 25 (by decide)).trans z25
    have v26 := (S3.slot 26 (by decide)).trans z26
    generalize (a5.put (some 295) (.int .u64 m)).put (some (295 + 1)) (.bool (hb m 16777216)) = a6 at hA6 v25 v26
    clear S3 hA5 z25 z26 a5
    cases kh : hb m 16777216 with
    | true =>
      rw [if_pos rfl]
      refine wp_seq (r_bad hA6 v25 hs hp (fun a7 S4 t7 => ?_))
      show Code.wp _ _ _ _ _
      refine wp_cond t7 ?_
      have hA7 := hA6.same S4
      have u25 := (S4.slot 25 (by decide)).trans v25
      have u26 := (S4.slot 26 (by decide)).trans v26
      clear S4 hA6 v25 v26
      have hbad : isBad s pos = decide (l = 1) := by
        unfold isBad
        rw [Bool.eq_iff_iff]
        simp
        omega
      rw [hbad]
      by_cases k3 : l = 1
      · rw [if_pos (by simp [k3])]
        refine wp_seq (r_dec E hA7 u25 hI hp (by decide) (by decide) (by decide) fun a8 w8 hA8 w25 w28 hI8 => ?_)
        show Code.wp _ _ _ _ _
        rw [hgo] at w28
        refine wp_seq (r_quote E hA8 w25 (l := 1) (by rw [w28, k3]) hs hp rfl (by omega) hI8 (fun a9 w9 hA9 hI9 => ?_))
        show Code.wp _ _ _ _ _
        refine wp_exit ?_
        show Q .normal _ _
        exact H _ _ hA9 (by rw [unitOf, if_neg k0, if_neg k1, if_pos ⟨k2, k3⟩, if_pos kh]; exact hI9)
      · rw [if_neg (by simp [k3])]
        refine wp_skip ?_
        show Code.wp _ _ _ _ _
        refine chain (Q := Exit.inBlock 6 Q) E.env (by omega) (hA7.ctx u26) hI (by omega) hr1 fun e a' w' he hs' hI' => ?_
        rcases he with rfl | rfl <;> (show Q .normal a' w'; exact H _ _ (hA7.same hs') (by rw [unitOf, if_neg k0, if_neg k1, if_neg (fun h => k3 h.2)]; exact hI'))
    | false =>
      rw [if_neg (by decide)]
      refine wp_seq (r_dec E hA6 v25 hI hp (by decide) (by decide) (by decide) fun a8 w8 hA8 w25 w30 hI8 => ?_)
      show Code.wp _ _ _ _ _
      rw [hgo] at w30
      refine wp_seq (r_text E hA8 w25 w30 hs hp hfit (by omega) hI8 (fun a9 w9 hA9 hI9 => ?_))
      show Code.wp _ _ _ _ _
      refine wp_exit ?_
      show Q .normal _ _
      refine H _ _ hA9 ?_
      rw [unitOf, if_neg k0, if_neg k1]
      rcases herr with ⟨h1, h2⟩ | ⟨h1, h2⟩
      · rw [if_pos ⟨k2, h1⟩, if_neg (by rw [kh]; decide)]
        rw [h1, ext_list s pos 1 (by omega)] at hI9
        exact hI9
      · rw [if_neg (fun h => by omega), k2, err_stays]
        rw [h1, ext_list s pos 3 (by omega)] at hI9
        rw [err_bytes s pos h2.1 h2.2.1 h2.2.2.1] at hI9
        exact hI9
  · rw [if_neg (by simp; omega)]
    refine wp_skip ?_
    show Code.wp _ _ _ _ _
    refine chain (Q := Exit.inBlock 6 Q) E.env (by omega) (hA5.ctx z26) hI (by omega) hr1 fun e a' w' he hs' hI' => ?_
    rcases he with rfl | rfl <;> (show Q .normal a' w'; exact H _ _ (hA5.same hs') (by rw [unitOf, if_neg k0, if_neg k1, if_neg (fun h => k2 h.1)]; exact hI'))
end Go.Proofs.YtlgoghonnnobfaaDoor.Enc
namespace Go.Proofs.YtlgoghonnnobfaaDoor.Enc
open Go Go.RowKit Go.Proofs.YtlgoghonnnobfaaDoor.Fr
set_option linter.unusedVariables false
set_option linter.unusedSimpArgs false
/-! ### the buffer, the text's iterator and the mask's box behind each round -/
structure J (w0 : World) (m : Int) (s : ByteArray) (b it pos : Nat) (acc : List UInt8) (w : World) : Prop where
  buf : Lib.IsBuffer 56 5 w0.heap.size b (Lib.byteCells acc) w
  iter : w.heap[it]? = some (.stringIter s pos)
  box : w.heap[w0.heap.size]? = some (.cells #[.int .u64 m] 39 (0, 0))
  below : Below w0.heap.size w0 w
section
variable {w0 w w' : World} {m : Int} {s : ByteArray} {b it pos : Nat} {acc : List UInt8}
theorem old_block {w w' : World} {k : Nat} {o : Obj} (hb : Below w.heap.size w w') (h : w.heap[k]? = some o) : w'.heap[k]? = some o :=
  (hb.block k (Array.getElem?_eq_some_iff.1 h).1).trans h
theorem J.old (h : J w0 m s b it pos acc w) (hb : Below w.heap.size w w') : J w0 m s b it pos acc w' :=
  ⟨h.buf.old hb, old_block hb h.iter, old_block hb h.box, h.below.trans (hb.mono h.below.size)⟩
theorem J.cell (h : J w0 m s b it pos acc w) : w.cell? ⟨w0.heap.size, 0, none⟩ = some (.int .u64 m) := by
  rw [Lib.cell_of_heap h.box]; rfl
theorem J.next (h : J w0 m s b it pos acc w) (pos' : Nat) (hit : w0.heap.size < it) : J w0 m s b it pos' acc (w.iterAt it s pos') :=
  ⟨h.buf.iterAt h.iter _, Lib.iterAt_heap _ _ _ _ _ h.iter, (Lib.iterAt_other _ _ _ _ _ (by omega)).trans h.box, Lib.below_iterAt h.below (by omega) _ _⟩
theorem J.wrote (h : J w0 m s b it pos acc w) {l : List UInt8} (hbw : w0.heap.size < b) (h1 : Lib.IsBuffer 56 5 w0.heap.size b (Lib.byteCells acc ++ Lib.byteCells l) w') (h2 : Below w0.heap.size w w') (h3 : Lib.OthersKept 5 (some b) w w') : J w0 m s b it pos (acc ++ l) w' :=
  ⟨by rw [Lib.byteCells_append]; exact h1, h3.iter h.iter (h.buf.ne_iter h.iter), h3 _ _ h.box (by simp; omega) (fun c fz e => by cases e), h.below.trans h2⟩
end
/-- What is asked of the world is paid. -/
theorem J.env {w0 : World} {m : Int} {s : ByteArray} {b it pos : Nat} (hT : Lib.Utf8Tabs 0 1 w0) (hbw : w0.heap.size < b)
    (hq : ∀ acc w c, acc.length ≤ 140737488355000 → J w0 m s b it pos acc w → Calls Tryd.prog 48 #[.iface 64 (.pointer (some ⟨b, 0, none⟩)), .string ⟨#[c]⟩] w fun e w' => ∃ v, e = .returned v ∧ J w0 m s b it pos (acc ++ quoted c) w') :
    Env2 140737488355000 m ⟨w0.heap.size, 0, none⟩ ⟨b, 0, none⟩ (J w0 m s b it pos) where
  env := ⟨fun acc w h => h.cell, fun acc w r hl h hr0 hr1 => by
    refine (Shelf.Tryd.Buffer_WriteRune_k w0.heap.size b (Lib.byteCells acc) r hr0 hr1 w h.buf h.below.size (Lib.byteCells_one _) (by simp [Lib.byteCells]; omega)).mono ?_
    rintro e w' ⟨rfl, h1, h2, h3⟩
    exact ⟨_, rfl, h.wrote hbw (by rw [Lib.byteCells_encodeRune]; exact h1) h2 h3⟩⟩
  dec := fun acc w t h => (Shelf.Tryd.utf8_DecodeRuneInString t w (Utf8Tabs_below hT h.below)).mono fun e w' hh => ⟨hh.1, h.old hh.2⟩
  text := fun acc w t hl h => by
    refine (Shelf.Tryd.Buffer_WriteString_k w0.heap.size b (Lib.byteCells acc) t w h.buf h.below.size (Lib.byteCells_one _) (by simp [Lib.byteCells]; omega)).mono ?_
    rintro e w' ⟨rfl, h1, h2, h3⟩
    exact ⟨_, rfl, h.wrote hbw h1 h2 h3⟩
  quote := hq
end Go.Proofs.YtlgoghonnnobfaaDoor.Enc
namespace Go.Proofs.YtlgoghonnnobfaaDoor.Enc
open Go Go.RowKit Go.Proofs.YtlgoghonnnobfaaDoor.Fr
set_option linter.unusedVariables false
set_option linter.unusedSimpArgs false
def digs : ByteArray := ⟨#[48, 49, 50, 51, 52, 53, 54, 55, 56, 57, 65, 66, 67, 68, 69, 70]⟩
theorem dig_at : ∀ n : Fin 16, digs.extract n.val (n.val + 1) = ⟨#[hexc n.val]⟩ := by decide +kernel
theorem band15' (c : UInt8) : Go.bits .and .u8 (c.toNat : Int) 15 = ((c.toNat % 16 : Nat) : Int) := by
  have h : ∀ n : Fin 256, Go.bits .and .u8 (n.val : Int) 15 = ((n.val % 16 : Nat) : Int) := by decide +kernel
  exact h ⟨c.toNat, c.toNat_lt⟩
theorem dig_slice (W : World) (n : Nat) (hn : n < 16) : (Instr.sliceAt 9 (.string ⟨#[48, 49, 50, 51, 52, 53, 54, 55, 56, 57, 65, 66, 67, 68, 69, 70]⟩) (some (.int .u8 (n : Int))) (some (.int .u8 ((n : Int) + 1))) none).run Tryd.prog W = .ok (.string ⟨#[hexc n]⟩) W := by
  show (Instr.sliceAt 9 (.string digs) (some (.int .u8 (n : Int))) (some (.int .u8 ((n : Int) + 1))) none).run Tryd.prog W = _
  rw [run_sliceAt_string W 9 _ _ _ _ Tryd.underlying9, run_slice_string W 9 digs .u8 .u8 (n : Int) ((n : Int) + 1) Tryd.underlying9 (by omega) (by omega) (by show _ ≤ ((16 : Nat) : Int); omega)]
  have h := dig_at ⟨n, hn⟩
  simp only [Int.toNat_natCast]
  rw [show ((n : Int) + 1).toNat = n + 1 by omega, h]
theorem quoted_len (c : UInt8) : (quoted c).length = 5 := rfl
theorem write_q {w0 : World} {m : Int} {s : ByteArray} {b it pos : Nat} (hbw : w0.heap.size < b) (acc : List UInt8) (w : World) (c : UInt8) (cap : Nat) (hl : acc.length ≤ 140737488355000) (hJ : J w0 m s b it pos acc w) :
    Calls Tryd.prog 126 #[.pointer (some ⟨b, 0, none⟩), .slice (some ⟨w.heap.size, 0, none⟩) (quoted c).length cap] (Lib.bytesWorld w.drew 5 ⟨(quoted c).toArray⟩) fun e w' => e = .returned (.tuple #[.int .i64 ((quoted c).length : Int), .nilIface]) ∧ J w0 m s b it pos (acc ++ quoted c) w' := by
  have hB : Below w.heap.size w (Lib.bytesWorld w.drew 5 ⟨(quoted c).toArray⟩) := (Below.drew (Below.refl _ w)).trans (Lib.bytesWorld_below w.drew 5 ⟨(quoted c).toArray⟩)
  have hJ2 := hJ.old hB
  have hlt := hJ.buf.lt
  refine (Shelf.Tryd.Buffer_Write_any w0.heap.size b (Lib.byteCells acc) (Lib.byteCells (quoted c)) ⟨w.heap.size, 0, none⟩ (quoted c).length cap _ hJ2.buf hJ2.below.size (Lib.byteCells_one _) (by simp [Lib.byteCells]) (by show w.heap.size ≠ b; omega) ?_ (Lib.byteCells_one _) (by simp [Lib.byteCells, quoted_len]; omega)).mono ?_
  · intro j v hv
    have hj : j < (quoted c).length := by
      have := (List.getElem?_eq_some_iff.1 hv).1
      simpa [Lib.byteCells] using this
    rw [WideShapes.add_plain, Nat.zero_add]
    have h := Lib.bytesWorld_cell w.drew 5 ⟨(quoted c).toArray⟩ j hj
    have e : (World.drew w).heap.size = w.heap.size := rfl
    rw [e] at h
    rw [h]
    simp only [Lib.byteCells, List.getElem?_map] at hv
    rw [List.getElem?_eq_getElem hj] at hv
    simp only [Option.map_some, Option.some.injEq] at hv
    rw [← hv, List.getD_eq_getElem?_getD]
    show some (Value.int .u8 (((quoted c)[j]?.getD 0).toNat : Int)) = _
    rw [List.getElem?_eq_getElem hj]
    rfl
  · rintro e w' ⟨rfl, h1, h2, h3⟩
    exact ⟨rfl, hJ2.wrote hbw h1 h2 h3⟩
theorem meth (v : Value) (w : World) : (method 251 64 v "Write").run Tryd.prog w = .ok (126, v) w := by kernel_rfl
theorem ahead (v : Value) (w : World) : (nilAhead 251 64 v "Write").run Tryd.prog w = .ok (some false) w := by kernel_rfl
set_option maxHeartbeats 1000000 in
set_option maxRecDepth 1000000 in
theorem quote_walk {w0 : World} {m : Int} {s : ByteArray} {b it pos : Nat} (hbw : w0.heap.size < b) (acc : List UInt8) (w : World) (c : UInt8) (hl : acc.length ≤ 140737488355000) (hJ : J w0 m s b it pos acc w) :
    Calls Tryd.prog 48 #[.iface 64 (.pointer (some ⟨b, 0, none⟩)), .string ⟨#[c]⟩] w fun e w' => ∃ v, e = .returned v ∧ J w0 m s b it pos (acc ++ quoted c) w' := by
  have hJ1 := hJ.old (Lib.bytesWorld_below w 5 ⟨#[c]⟩)
  have hc1 := Lib.bytesWorld_cell w 5 ⟨#[c]⟩ 0 (show 0 < 1 by decide)
  have HJ := Lib.hid hJ1
  have HC := Lib.hid hc1
  clear hJ hJ1 hc1
  have hcv := fun (W : World) => Lib.run_convert_string_bytes (P := Tryd.prog) W 9 28 5 ⟨#[c]⟩ Tryd.underlying9 Tryd.underlying28 Tryd.underlying5
  go_enter Tryd.func48, Tryd.ntmps48
  go_wp2_with fail
  clear hcv
  generalize Lib.bytesWorld w 5 ⟨#[c]⟩ = W1 at HJ HC
  go_loopg [9] 2 (fun g v9 wr => (g = 2 ∧ v9 = .int .i64 0 ∧ wr = W1) ∨ (g = 1 ∧ v9 = .int .i64 1 ∧ J w0 m s b it pos (acc ++ quoted c) wr))
  case atStart => exact .inl ⟨rfl, rfl, rfl⟩
  case round =>
    rcases hrel with ⟨rfl, rfl, rfl⟩ | ⟨rfl, rfl, hj2⟩
    · have hcell : wr.cell? ⟨w.heap.size, 0, none⟩ = some (.int .u8 (c.toNat : Int)) := HC.out
      have hlt : c.toNat < 256 := c.toNat_lt
      have hdiv : c.toNat / 16 < 16 := by omega
      have hs1 : ∀ W, (Instr.sliceAt 9 (.string ⟨#[48, 49, 50, 51, 52, 53, 54, 55, 56, 57, 65, 66, 67, 68, 69, 70]⟩) (some (.int .u8 ((c.toNat : Int) / 16))) (some (.int .u8 ((c.toNat : Int) / 16 + 1))) none).run Tryd.prog W = .ok (.string ⟨#[hexc (c.toNat / 16)]⟩) W := fun W => dig_slice W (c.toNat / 16) hdiv
      have hs2 : ∀ W, (Instr.sliceAt 9 (.string ⟨#[48, 49, 50, 51, 52, 53, 54, 55, 56, 57, 65, 66, 67, 68, 69, 70]⟩) (some (.int .u8 ((c.toNat : Int) % 16))) (some (.int .u8 ((c.toNat : Int) % 16 + 1))) none).run Tryd.prog W = .ok (.string ⟨#[hexc (c.toNat % 16)]⟩) W := fun W => dig_slice W (c.toNat % 16) (Nat.mod_lt _ (by decide))
      have ha1 : ∀ W, (Op.stringOp .add ⟨#[226, 128, 155]⟩ ⟨#[hexc (c.toNat / 16)]⟩).run Tryd.prog W = .ok (.string ⟨#[226, 128, 155, hexc (c.toNat / 16)]⟩) W := fun W => run_string_add_lists W [226, 128, 155] [hexc (c.toNat / 16)] (by simp) (by simp)
      have ha2 : ∀ W, (Op.stringOp .add ⟨#[226, 128, 155, hexc (c.toNat / 16)]⟩ ⟨#[hexc (c.toNat % 16)]⟩).run Tryd.prog W = .ok (.string ⟨(quoted c).toArray⟩) W := fun W => run_string_add_lists W [226, 128, 155, hexc (c.toNat / 16)] [hexc (c.toNat % 16)] (by simp) (by simp)
      have hb15 := band15' c
      have hcv := fun (W : World) => Lib.run_convert_string_bytes (P := Tryd.prog) W 9 28 5 ⟨(quoted c).toArray⟩ Tryd.underlying9 Tryd.underlying28 Tryd.underlying5
      have hw1 : IntKind.u8.wrap ((c.toNat : Int) / 16 + 1) = (c.toNat : Int) / 16 + 1 := IntWalk.u8_in _ (by omega)
      have hw2 : IntKind.u8.wrap ((c.toNat : Int) % 16 + 1) = (c.toNat : Int) % 16 + 1 := IntWalk.u8_in _ (by omega)
      go_wp2_with fail
      clear hcell
      have hmeth := fun (v : Value) (W : World) => meth v W
      have hahead := fun (v : Value) (W : World) => ahead v W
      have HWR := Lib.hid (fun cap => write_q hbw acc wr c cap hl HJ.out)
      go_region_with (go_at_call 126; (with_reducible refine (HWR.out _).mono ?_); rintro e w2 ⟨rfl, hj2⟩; have HJ2 := Lib.hid hj2; clear hj2)
      all_goals (go_wp2_with fail)
      all_goals
        go_roundg 1
        case rel => exact .inr ⟨rfl, rfl, HJ2.out⟩
        case measure => omega
    · have HJ2 := Lib.hid hj2
      clear hj2
      go_wp2_with fail
      go_end0
      exact ⟨_, rfl, HJ2.out⟩
end Go.Proofs.YtlgoghonnnobfaaDoor.Enc
namespace Go.Proofs.YtlgoghonnnobfaaDoor.Enc
open Go Go.RowKit Go.Proofs.YtlgoghonnnobfaaDoor.Fr
set_option linter.unusedVariables false
set_option linter.unusedSimpArgs false
/-! ### the encoder's loop, and what stands behind it -/
def encFrom (m : Int) (s : ByteArray) : Nat → Nat → List UInt8
  | 0, _ => []
  | f + 1, pos => if pos < s.size then unit m s pos ++ encFrom m s f (pos + (Utf8.decode s pos).2) else []
/-- A text, character by character, as a mask writes it. -/
def encAll (m : Int) (s : ByteArray) : List UInt8 := encFrom m s s.size 0
theorem encFrom_end (m : Int) (s : ByteArray) (f pos : Nat) (h : ¬ pos < s.size) : encFrom m s f pos = [] := by
  cases f <;> simp [encFrom, h]
theorem rune_len (r : Int) : (Lib.encodeRune r).length ≤ 4 := by
  simp only [Lib.encodeRune, List.length_map]; exact (Lib.encodeRuneZ_length r).2
theorem by_len (m r : Int) (l : List Bit) : (by' m r l).length ≤ 8 := by
  induction l with
  | nil => have := rune_len r; simp only [by']; omega
  | cons b l ih =>
    rw [by']
    split
    · have := rune_len (r + b.off); omega
    · split
      · rw [List.length_append, len8219]; have := rune_len r; omega
      · exact ih
theorem unit_len (m : Int) (s : ByteArray) (pos : Nat) : (unit m s pos).length ≤ 8 := by
  unfold unit
  split
  · have := rune_len 9216; omega
  · split
    · rw [List.length_append, len8219]; have := rune_len (Utf8.decode s pos).1; omega
    · split
      · split
        · exact (by decide : 5 ≤ 8)
        · simp
      · exact by_len _ _ _
theorem ret29 {R : Ending → World → Prop} {a : Act} {w : World} {v : Value} (hd : a.defers = []) (h : a.eval (.tmp 4) = v) (hR : R (.returned v) w) : bodyPost Tryd.prog Tryd.f29 R .ret a w := by
  refine ⟨hd, v, ?_, hR⟩
  have e : Tryd.f29.results = #[.tmp 4] := by kernel_rfl
  unfold results
  rw [e]
  have h' : a.tmps.getD 4 undef = v := h
  rw [Array.getD_eq_getD_getElem?] at h'
  simp [h']
theorem run_next {P : Program} {a : Act} {w w' : World} {x : Operand} {d : Option Tmp} {ty : TypeId} {pos : String} {aft : Array Edge} {g : Option (Nat × Bool)} {p v : Value} (hx : a.eval x = p) (hr : (Instr.next p true ty).run P w = .ok v w') :
    (execOp a.eval { dst := d, op := .next x true, type := ty, pos := pos, after := aft, guard := g }).run P w = .ok (.value v) w' := by
  simp only [execOp, hx]
  simp [hr]
theorem enters49 : Enters Tryd.prog 49 := enters_of Tryd.func49 (by kernel_rfl) rfl
/-- What stands of the frame ahead of the loop. -/
structure PC (s suf : ByteArray) (pm pb : Addr) (a : Act) : Prop where
  size : a.tmps.size = 602
  s1 : a.eval (.tmp 1) = .string s
  s2 : a.eval (.tmp 2) = .pointer (some pm)
  s15 : a.eval (.tmp 15) = .string suf
  s24 : a.eval (.tmp 24) = .pointer (some pb)
  defers : a.defers = []
/-- What stands of the world ahead of the loop. -/
structure K (w0 : World) (m : Int) (b : Nat) (acc : List UInt8) (w : World) : Prop where
  buf : Lib.IsBuffer 56 5 w0.heap.size b (Lib.byteCells acc) w
  box : w.heap[w0.heap.size]? = some (.cells #[.int .u64 m] 39 (0, 0))
  below : Below w0.heap.size w0 w
set_option maxRecDepth 100000 in
set_option maxHeartbeats 2000000 in
theorem tail_walk {R : Ending → World → Prop} {s suf : ByteArray} {a : Act} {w0 w : World} {m : Int} {acc : List UInt8} {b : Nat} (hT : Lib.Utf8Tabs 0 1 w0) (hbw : w0.heap.size < b)
    (hA : PC s suf ⟨w0.heap.size, 0, none⟩ ⟨b, 0, none⟩ a) (hK : K w0 m b acc w) (hs : s.size ≤ 1000000) (hsuf : suf.size ≤ 1000000) (hacc : acc.length ≤ 1000000)
    (H : ∀ w', Below w0.heap.size w0 w' → R (.returned (.string ⟨(acc ++ encAll m s ++ suf.data.toList).toArray⟩)) w') :
    (piece [1, 1, 1, 1, 1, 1, 1, 1, 1, 1, 1, 1, 1, 1, 1, 1, 1, 1, 1] (Tryd.f29.body.getD .skip)).wp Tryd.prog (bodyPost Tryd.prog Tryd.f29 R) a w := by
  have hz := hA.size
  have hbl : w0.heap.size < w.heap.size := (Array.getElem?_eq_some_iff.1 hK.box).1
  conv => arg 2; whnf
  refine wp_seq ?_
  refine wp_seq ?_
  refine wp_region_lit ?_
  refine Fr.move ?_
  rw [hA.s1]
  refine Fr.step rfl (run_range (s := s) Tryd.underlying9 (eval_same _ _ _ (by omega))) ?_
  refine wpList_nil ?_
  show Code.wp _ _ _ _ _
  have hJ0 : J w0 m s b w.heap.size 0 acc (w.alloc (.stringIter s 0)) := by
    have hb : Below w.heap.size w (w.alloc (.stringIter s 0)) := (Below.refl _ w).alloc (Nat.le_refl _) _
    exact ⟨hK.buf.old hb, heap_alloc_new w _, old_block hb hK.box, hK.below.trans (hb.mono hK.below.size)⟩
  have hL0 : LC s suf ⟨w0.heap.size, 0, none⟩ ⟨b, 0, none⟩ ⟨w.heap.size, 0, none⟩ ((a.put (some 277) (.string s)).put (some 278) (.pointer (some ⟨w.heap.size, 0, none⟩))) :=
    ⟨by simp [size_put, hz], by simp [eval_other, hA.s1], by simp [eval_other, hA.s2], by simp [eval_other, hA.s15], by simp [eval_other, hA.s24], eval_same _ _ _ (by simp [size_put, hz]), by simp [defers_put, hA.defers]⟩
  generalize ((a.put (some 277) (.string s)).put (some 278) (.pointer (some ⟨w.heap.size, 0, none⟩))) = a0 at hL0
  generalize w.alloc (.stringIter s 0) = w1 at hJ0
  generalize hit : w.heap.size = it at hJ0 hL0 hbl
  clear hit hK hz hA a
  have HE := fun pos => J.env (m := m) (s := s) (b := b) (it := it) (pos := pos) hT hbw (fun acc w c hl hj => quote_walk hbw acc w c hl hj)
  refine wp_block ?_
  refine wp_loop_ghost (fun n a' w' => ∃ pos acc', n + pos = s.size + 1 ∧ LC s suf ⟨w0.heap.size, 0, none⟩ ⟨b, 0, none⟩ ⟨it, 0, none⟩ a' ∧ J w0 m s b it pos acc' w' ∧ acc'.length ≤ 1000000 + 8 * pos ∧ pos ≤ s.size ∧ ∃ f, s.size ≤ pos + f ∧ acc' ++ encFrom m s f pos = acc ++ encAll m s) (s.size + 1) ⟨0, acc, by omega, hL0, hJ0, by omega, by omega, s.size, by omega, rfl⟩ ?_
  clear hL0 hJ0
  rintro n a1 w1 ⟨pos, acc1, hn, hL, hJ, hal, hps, f, hf, hsum⟩
  have hz := hL.size
  refine wp_seq ?_
  by_cases hp : pos < s.size
  · refine wp_region_lit ?_
    refine Fr.step rfl (run_next hL.s278 (Lib.run_next_any_at w1 it s pos 0 hJ.iter hp)) ?_
    refine Fr.step rfl (run_extract (v := .bool true) (eval_same _ _ _ (by omega)) (by rfl)) ?_
    refine wpList_nil ?_
    show Code.wp _ _ _ _ _
    have hJ2 := hJ.next (pos + (Utf8.decode s pos).2) hbl
    have e279 : ((a1.put (some 279) (.tuple #[.bool true, .int .i64 (pos : Int), .int .i32 ((Utf8.decode s pos).1 : Int)])).put (some 280) (.bool true)).eval (.tmp 279) = .tuple #[.bool true, .int .i64 (pos : Int), .int .i32 ((Utf8.decode s pos).1 : Int)] := by
      rw [eval_other _ _ _ _ (by decide)]; exact eval_same _ _ _ (by omega)
    have hL2 := (hL.put 279 (.tuple #[.bool true, .int .i64 (pos : Int), .int .i32 ((Utf8.decode s pos).1 : Int)]) (by decide)).put 280 (.bool true) (by decide)
    refine wp_seq ?_
    refine wp_cond_true (eval_same _ _ _ (by simp [size_put, hz])) (wp_skip ?_)
    show Code.wp _ _ _ _ _
    generalize ((a1.put (some 279) (.tuple #[.bool true, .int .i64 (pos : Int), .int .i32 ((Utf8.decode s pos).1 : Int)])).put (some 280) (.bool true)) = a2 at e279 hL2
    generalize w1.iterAt it s (pos + (Utf8.decode s pos).2) = w2 at hJ2
    have hfit := dec_fit s pos hp
    have hpos := dec_pos s pos hp
    refine unit_walk (HE _) (by omega) hL2 e279 hJ2 hp (by omega) fun a3 w3 hL3 hJ3 => ?_
    have hul := unit_len m s pos
    refine ⟨n - (Utf8.decode s pos).2, by omega, pos + (Utf8.decode s pos).2, _, by omega, hL3, hJ3, by rw [List.length_append]; omega, hfit, ?_⟩
    cases f with
    | zero => omega
    | succ f =>
      refine ⟨f, by omega, ?_⟩
      rw [← hsum, encFrom, if_pos hp, List.append_assoc]
  · refine wp_region_lit ?_
    refine Fr.step rfl (run_next hL.s278 (Lib.run_next_end_at w1 it s pos 0 hJ.iter hp)) ?_
    refine Fr.step rfl (run_extract (v := .bool false) (eval_same _ _ _ (by omega)) (by rfl)) ?_
    refine wpList_nil ?_
    show Code.wp _ _ _ _ _
    have hL2 := (hL.put 279 (.tuple #[.bool false]) (by decide)).put 280 (.bool false) (by decide)
    refine wp_seq ?_
    refine wp_cond_false (eval_same _ _ _ (by simp [size_put, hz])) (wp_exit ?_)
    generalize ((a1.put (some 279) (.tuple #[.bool false])).put (some 280) (.bool false)) = a2 at hL2
    show Code.wp _ _ _ _ _
    rw [encFrom_end m s f pos hp, List.append_nil] at hsum
    have hz2 := hL2.size
    refine wp_seq ?_
    refine wp_region_lit ?_
    refine Fr.move ?_
    rw [hL2.s15]
    refine call enters46 ?_
    have e : (#[Operand.tmp 24, .tmp 599]).map (a2.put (some 599) (.string suf)).eval = #[.pointer (some ⟨b, 0, none⟩), .string suf] := by
      simp [eval_same _ _ _ (show 599 < a2.tmps.size by omega), eval_other _ 599 24 _ (by decide), hL2.s24]
    rw [e]
    refine ((HE pos).text acc1 w1 suf (by omega) hJ).mono ?_
    rintro e w3 ⟨v, rfl, hJ3⟩
    refine ⟨_, rfl, wpList_nil ?_⟩
    show Code.wp _ _ _ _ _
    have hL3 := (hL2.put 599 (.string suf) (by decide)).put 600 v (by decide)
    generalize (a2.put (some 599) (.string suf)).put (some 600) v = a3 at hL3
    have hz3 := hL3.size
    refine wp_seq ?_
    refine wp_region_lit ?_
    refine call enters49 ?_
    have e : (#[Operand.tmp 24]).map a3.eval = #[.pointer (some ⟨b, 0, none⟩)] := by simp [hL3.s24]
    rw [e]
    refine (Shelf.Tryd.Buffer_String w0.heap.size b (acc1 ++ suf.data.toList) w3 hJ3.buf).mono ?_
    rintro e w4 ⟨rfl, q, rfl⟩
    refine ⟨_, rfl, ?_⟩
    refine assign ?_
    refine wpList_nil ?_
    show Code.wp _ _ _ _ _
    refine wp_ret ?_
    rw [eval_same _ _ _ (by omega)]
    refine ret29 (by rw [defers_put, defers_put]; exact hL3.defers) (eval_same _ _ _ (by rw [size_put]; omega)) ?_
    rw [hsum]
    exact H _ (hJ3.below.trans ((below_drewN w3 q).mono hJ3.below.size))
end Go.Proofs.YtlgoghonnnobfaaDoor.Enc
namespace Go.Proofs.YtlgoghonnnobfaaDoor.Enc
open Go Go.RowKit Go.Proofs.YtlgoghonnnobfaaDoor.Fr
set_option linter.unusedVariables false
set_option linter.unusedSimpArgs false
theorem grow63 (B b n : Nat) (w : World) (hB : B ≤ b) (hBw : B ≤ w.heap.size) (hbk : w.heap[b]? = some (.cells #[.slice none 0 0, .int .i64 0, .int .i8 0] 56 (0, 0))) (hn : 1 ≤ n) (hlim : n ≤ 140737488355328) :
    Calls Tryd.prog 63 #[.pointer (some ⟨b, 0, none⟩), .int .i64 n] w fun e w' => e = .returned (.int .i64 0) ∧ ∃ g cap lr cur, w'.heap[b]? = some (.cells #[.slice (some ⟨g, 0, none⟩) n cap, .int .i64 0, .int .i8 lr] 56 (0, 0)) ∧ B ≤ g ∧ g ≠ b ∧ w'.heap[g]? = some (.cells cur 5 (0, 0)) ∧ n ≤ cap ∧ cap ≤ maxLen ∧ cur.size = cap ∧ Below B w w' ∧ Lib.OthersKept 5 (some b) w w' := by
  have key : Calls Tryd.prog 63 #[.pointer (some ⟨b, 0, none⟩), .int .i64 n] w fun e w' => e = .returned (.int .i64 0) ∧ ∃ xs, xs.length = n ∧ Lib.IsBuffer 56 5 B b xs w' ∧ Below B w w' ∧ Lib.OthersKept 5 (some b) w w' ∧ w.grownBy w' (some b) := by
    by_cases h : n ≤ 64
    · exact Shelf.Tryd.Buffer_grow_nil_small_own B b n 0 w hB hBw hbk hn h
    · exact Shelf.Tryd.Buffer_grow_nil_big_own B b n 0 w hB hBw hbk (by omega) hlim
  refine key.mono ?_
  rintro e w' ⟨rfl, xs, hx, ⟨h1, v, lr, hv, ⟨ho1, ho⟩, hvb⟩, hb, hk, _⟩
  refine ⟨rfl, ?_⟩
  rcases ho with ⟨_, h0⟩ | ⟨g, cap, cur, rfl, hg, hgh, hnc, hcm, hcs, _⟩
  · omega
  · exact ⟨g, cap, lr, cur, by rw [hx] at hv; exact hv, hg, fun e => hvb (by simp [Value.ownBlock, e]), hgh, by omega, hcm, by simpa using hcs, hb, hk⟩
set_option maxHeartbeats 1000000 in
/-- Grow of a fresh buffer. -/
theorem grow45 (B b n : Nat) (w : World) (hB : B ≤ b) (hBw : B ≤ w.heap.size) (hbk : w.heap[b]? = some (.cells #[.slice none 0 0, .int .i64 0, .int .i8 0] 56 (0, 0))) (hn : 1 ≤ n) (hlim : n ≤ 140737488355328) :
    Calls Tryd.prog 45 #[.pointer (some ⟨b, 0, none⟩), .int .i64 n] w fun e w' => (∃ v, e = .returned v) ∧ Lib.IsBuffer 56 5 B b [] w' ∧ Below B w w' ∧ Lib.OthersKept 5 (some b) w w' := by
  have HG := Lib.hid (grow63 B b n w hB hBw hbk hn hlim)
  clear hbk
  go_enter Tryd.func45, Tryd.ntmps45
  go_wp2_with (go_at_call 63; (with_reducible refine HG.out.mono ?_); rintro e w1 ⟨rfl, g, cap, lr, cur, h1, h2, h3, h4, h5, h6, h7, h8, h9⟩; have c0 := (Lib.cell_of_heap h1 0); have f0 : w1.frozen? ⟨b, 0, none⟩ = false := by { simp [World.frozen?, h1] }; have HH := Lib.hid (And.intro h1 (And.intro h4 (And.intro h8 h9))); clear h1 h4 h8 h9)
  go_end0
  obtain ⟨q1, q2, q3, q4⟩ := HH.out
  refine ⟨⟨_, rfl⟩, ?_, q3.setCell hB _, q4.setCell _ rfl _⟩
  refine ⟨hB, .slice (some ⟨g, 0, none⟩) 0 cap, lr, ?_, ?_, by simp [Value.ownBlock, h3]⟩
  · rw [Joins.block_setCell q1]; rfl
  · exact ⟨rfl, .inr ⟨g, cap, cur, rfl, h2, by rw [heap_setCell_other _ _ _ _ h3]; exact q2, Nat.zero_le _, h6, by simpa using h7, rfl⟩⟩
end Go.Proofs.YtlgoghonnnobfaaDoor.Enc
namespace Go.Proofs.YtlgoghonnnobfaaDoor.Enc
open Go Go.RowKit Go.Proofs.YtlgoghonnnobfaaDoor.Fr
set_option linter.unusedVariables false
set_option linter.unusedSimpArgs false
/-! ### the buffer is made, and takes what stands ahead of the loop -/
theorem enters45 : Enters Tryd.prog 45 := enters_of Tryd.func45 (by kernel_rfl) rfl
theorem run_alloc56 {a : Act} {w : World} {d : Option Tmp} {ty : TypeId} {pos : String} {aft : Array Edge} {g : Option (Nat × Bool)} :
    (execOp a.eval { dst := d, op := .alloc 56, type := ty, pos := pos, after := aft, guard := g }).run Tryd.prog w = .ok (.value (.pointer (some ⟨w.heap.size, 0, none⟩))) (w.alloc (.cells #[.slice none 0 0, .int .i64 0, .int .i8 0] 56)) := by
  simp only [execOp]
  have h : (Instr.alloc 56 true (.tuple #[])).run Tryd.prog w = .ok (.pointer (some ⟨w.heap.size, 0, none⟩)) (w.alloc (.cells #[.slice none 0 0, .int .i64 0, .int .i8 0] 56)) := by kernel_rfl
  simp [h]
theorem K.wrote {w0 w w' : World} {m : Int} {b : Nat} {acc l : List UInt8} (h : K w0 m b acc w) (hbw : w0.heap.size < b) (h1 : Lib.IsBuffer 56 5 w0.heap.size b (Lib.byteCells acc ++ Lib.byteCells l) w') (h2 : Below w0.heap.size w w') (h3 : Lib.OthersKept 5 (some b) w w') : K w0 m b (acc ++ l) w' :=
  ⟨by rw [Lib.byteCells_append]; exact h1, h3 _ _ h.box (by simp; omega) (fun c fz e => by cases e), h.below.trans h2⟩
theorem K.text {w0 w : World} {m : Int} {b : Nat} {acc : List UInt8} (h : K w0 m b acc w) (hbw : w0.heap.size < b) (t : ByteArray) (hl : acc.length + t.size ≤ 140737488355328) :
    Calls Tryd.prog 46 #[.pointer (some ⟨b, 0, none⟩), .string t] w fun e w' => ∃ v, e = .returned v ∧ K w0 m b (acc ++ t.data.toList) w' := by
  refine (Shelf.Tryd.Buffer_WriteString_k w0.heap.size b (Lib.byteCells acc) t w h.buf h.below.size (Lib.byteCells_one _) (by simp [Lib.byteCells]; omega)).mono ?_
  rintro e w' ⟨rfl, h1, h2, h3⟩
  exact ⟨_, rfl, h.wrote hbw h1 h2 h3⟩
set_option maxRecDepth 100000 in
set_option maxHeartbeats 2000000 in
theorem pre_walk {R : Ending → World → Prop} {s pre suf : ByteArray} {i : Nat} {a : Act} {w0 w : World} {m : Int} (hT : Lib.Utf8Tabs 0 1 w0)
    (hz : a.tmps.size = 602) (h1 : a.eval (.tmp 1) = .string s) (h2 : a.eval (.tmp 2) = .pointer (some ⟨w0.heap.size, 0, none⟩)) (h5 : a.eval (.tmp 5) = .string pre) (h15 : a.eval (.tmp 15) = .string suf) (h23 : a.eval (.tmp 23) = .int .i64 (i : Int)) (hd : a.defers = [])
    (hbox : w.heap[w0.heap.size]? = some (.cells #[.int .u64 m] 39 (0, 0))) (hbel : Below w0.heap.size w0 w) (hs : s.size ≤ 500000) (hpre : pre.size ≤ 500000) (hsuf : suf.size ≤ 500000) (hi : i ≤ s.size) (hpos : 1 ≤ s.size + pre.size + suf.size)
    (H : ∀ w', Below w0.heap.size w0 w' → R (.returned (.string ⟨(pre.data.toList ++ (s.extract 0 i).data.toList ++ encAll m (s.extract i s.size) ++ suf.data.toList).toArray⟩)) w') :
    (piece [1, 1, 1, 1, 1, 1, 1, 1, 1, 1, 1, 1, 1, 1] (Tryd.f29.body.getD .skip)).wp Tryd.prog (bodyPost Tryd.prog Tryd.f29 R) a w := by
  have hbl : w0.heap.size < w.heap.size := (Array.getElem?_eq_some_iff.1 hbox).1
  conv => arg 2; whnf
  refine wp_seq ?_
  refine wp_region_lit ?_
  refine Fr.step rfl run_alloc56 ?_
  refine wpList_nil ?_
  show Code.wp _ _ _ _ _
  have hb1 : Below w.heap.size w (w.alloc (.cells #[.slice none 0 0, .int .i64 0, .int .i8 0] 56)) := (Below.refl _ w).alloc (Nat.le_refl _) _
  have hf := heap_alloc_new w (.cells #[.slice none 0 0, .int .i64 0, .int .i8 0] 56)
  have hbox1 := old_block hb1 hbox
  have hbel1 := hbel.trans (hb1.mono hbel.size)
  have e1 : (a.put (some 24) (.pointer (some ⟨w.heap.size, 0, none⟩))).eval (.tmp 1) = .string s := by simp [eval_other, h1]
  have e2 : (a.put (some 24) (.pointer (some ⟨w.heap.size, 0, none⟩))).eval (.tmp 2) = .pointer (some ⟨w0.heap.size, 0, none⟩) := by simp [eval_other, h2]
  have e5 : (a.put (some 24) (.pointer (some ⟨w.heap.size, 0, none⟩))).eval (.tmp 5) = .string pre := by simp [eval_other, h5]
  have e15 : (a.put (some 24) (.pointer (some ⟨w.heap.size, 0, none⟩))).eval (.tmp 15) = .string suf := by simp [eval_other, h15]
  have e23 : (a.put (some 24) (.pointer (some ⟨w.heap.size, 0, none⟩))).eval (.tmp 23) = .int .i64 (i : Int) := by simp [eval_other, h23]
  have e24 : (a.put (some 24) (.pointer (some ⟨w.heap.size, 0, none⟩))).eval (.tmp 24) = .pointer (some ⟨w.heap.size, 0, none⟩) := eval_same _ _ _ (by omega)
  have hd1 : (a.put (some 24) (.pointer (some ⟨w.heap.size, 0, none⟩))).defers = [] := by rw [defers_put]; exact hd
  have hz1 : (a.put (some 24) (.pointer (some ⟨w.heap.size, 0, none⟩))).tmps.size = 602 := by rw [size_put]; exact hz
  generalize (a.put (some 24) (.pointer (some ⟨w.heap.size, 0, none⟩))) = a1 at e1 e2 e5 e15 e23 e24 hd1 hz1
  generalize w.alloc (.cells #[.slice none 0 0, .int .i64 0, .int .i8 0] 56) = w1 at hf hbox1 hbel1
  generalize w.heap.size = b at *
  clear hb1 hbel hbox h1 h2 h5 h15 h23 hd hz a
  have hw1 : IntKind.i64.wrap ((s.size : Int) + (pre.size : Int)) = ((s.size + pre.size : Nat) : Int) := by rw [IntWalk.i64_in _ (by omega)]; simp
  have hw2 : IntKind.i64.wrap (((s.size + pre.size : Nat) : Int) + (suf.size : Int)) = ((s.size + pre.size + suf.size : Nat) : Int) := by rw [IntWalk.i64_in _ (by omega)]; simp
  -- Grow
  refine wp_seq ?_
  refine wp_region_lit ?_
  refine Fr.move ?_
  rw [e1]
  refine Fr.step rfl (run_len (s := s) Tryd.underlying9 (eval_same _ _ _ (by omega))) ?_
  refine Fr.move ?_
  rw [show ((a1.put (some 259) (.string s)).put (some 260) (.int .i64 (s.size : Int))).eval (.tmp 5) = .string pre from by simp [eval_other, e5]]
  refine Fr.step rfl (run_len (s := pre) Tryd.underlying9 (eval_same _ _ _ (by simp [size_put, hz1]))) ?_
  refine Fr.step rfl (run_addi (m := (s.size : Int)) (n := (pre.size : Int)) Tryd.underlying3 (by simp [eval_other, eval_same, size_put, hz1]) (by simp [eval_other, eval_same, size_put, hz1])) ?_
  rw [hw1]
  refine Fr.move ?_
  refine Fr.step rfl (run_len (s := suf) Tryd.underlying9 (by simp [eval_other, eval_same, size_put, hz1, e15])) ?_
  refine Fr.step rfl (run_addi (m := ((s.size + pre.size : Nat) : Int)) (n := (suf.size : Int)) Tryd.underlying3 (by simp [eval_other, eval_same, size_put, hz1]) (by simp [eval_other, eval_same, size_put, hz1])) ?_
  rw [hw2]
  refine call enters45 ?_
  have e : ∀ c : Act, c.tmps.size = 602 → c.eval (.tmp 24) = .pointer (some ⟨b, 0, none⟩) → (#[Operand.tmp 24, .tmp 266]).map (c.put (some 266) (.int .i64 ((s.size + pre.size + suf.size : Nat) : Int))).eval = #[.pointer (some ⟨b, 0, none⟩), .int .i64 ((s.size + pre.size + suf.size : Nat) : Int)] := by
    intro c hc h24
    simp [eval_same _ _ _ (show 266 < c.tmps.size by omega), eval_other _ 266 24 _ (by decide), h24]
  rw [e _ (by simp [size_put, hz1]) (by simp [eval_other, e24])]
  refine (grow45 w0.heap.size b (s.size + pre.size + suf.size) w1 (by omega) hbel1.size hf hpos (by omega)).mono ?_
  rintro e' w2 ⟨⟨v, rfl⟩, hb2, hbe2, hk2⟩
  refine ⟨_, rfl, wpList_nil ?_⟩
  show Code.wp _ _ _ _ _
  have hK : K w0 m b [] w2 := ⟨hb2, hk2 _ _ hbox1 (by simp; omega) (fun c fz e => by cases e), hbel1.trans hbe2⟩
  have S : ∀ c : Act, Same 250 280 a1 c → c.tmps.size = 602 ∧ c.eval (.tmp 1) = .string s ∧ c.eval (.tmp 2) = .pointer (some ⟨w0.heap.size, 0, none⟩) ∧ c.eval (.tmp 5) = .string pre ∧ c.eval (.tmp 15) = .string suf ∧ c.eval (.tmp 23) = .int .i64 (i : Int) ∧ c.eval (.tmp 24) = .pointer (some ⟨b, 0, none⟩) ∧ c.defers = [] := fun c hc =>
    ⟨hc.size.trans hz1, (hc.slot 1 (by decide)).trans e1, (hc.slot 2 (by decide)).trans e2, (hc.slot 5 (by decide)).trans e5, (hc.slot 15 (by decide)).trans e15, (hc.slot 23 (by decide)).trans e23, (hc.slot 24 (by decide)).trans e24, hc.defers.trans hd1⟩
  have hP : ∀ (c : Act) (d : Nat) (v : Value), Same 250 280 a1 c → 250 ≤ d → d ≤ 280 → Same 250 280 a1 (c.put (some d) v) := fun c d v h h1 h2 => h.put d v h1 h2
  have S2 := hP _ 267 v (hP _ 266 (.int .i64 ((s.size + pre.size + suf.size : Nat) : Int)) (hP _ 265 (.int .i64 (suf.size : Int)) (hP _ 264 ((((((a1.put (some 259) (.string s)).put (some 260) (.int .i64 (s.size : Int))).put (some 261) (.string pre)).put (some 262) (.int .i64 (pre.size : Int))).put (some 263) (.int .i64 ((s.size + pre.size : Nat) : Int))).eval (.tmp 15)) (hP _ 263 (.int .i64 ((s.size + pre.size : Nat) : Int)) (hP _ 262 (.int .i64 (pre.size : Int)) (hP _ 261 (.string pre) (hP _ 260 (.int .i64 (s.size : Int)) (hP a1 259 (.string s) (Same.refl a1) (by decide) (by decide)) (by decide) (by decide)) (by decide) (by decide)) (by decide) (by decide)) (by decide) (by decide)) (by decide) (by decide)) (by decide) (by decide)) (by decide) (by decide)) (by decide) (by decide)
  revert S2
  generalize ((((((((((a1.put (some 259) (.string s)).put (some 260) (.int .i64 (s.size : Int))).put (some 261) (.string pre)).put (some 262) (.int .i64 (pre.size : Int))).put (some 263) (.int .i64 ((s.size + pre.size : Nat) : Int))).put (some 264) ((((((a1.put (some 259) (.string s)).put (some 260) (.int .i64 (s.size : Int))).put (some 261) (.string pre)).put (some 262) (.int .i64 (pre.size : Int))).put (some 263) (.int .i64 ((s.size + pre.size : Nat) : Int))).eval (.tmp 15))).put (some 265) (.int .i64 (suf.size : Int))).put (some 266) (.int .i64 ((s.size + pre.size + suf.size : Nat) : Int))).put (some 267) v)) = a2
  intro S2
  obtain ⟨hz2, -, -, i5, -, -, i24, -⟩ := S _ S2
  -- the prefix
  refine wp_seq ?_
  refine wp_region_lit ?_
  refine Fr.move ?_
  rw [i5]
  refine call enters46 ?_
  have e : (#[Operand.tmp 24, .tmp 268]).map (a2.put (some 268) (.string pre)).eval = #[.pointer (some ⟨b, 0, none⟩), .string pre] := by
    simp [eval_same _ _ _ (show 268 < a2.tmps.size by omega), eval_other _ 268 24 _ (by decide), i24]
  rw [e]
  refine (hK.text hbl pre (by simp; omega)).mono ?_
  rintro e' w3 ⟨v3, rfl, hK3⟩
  refine ⟨_, rfl, wpList_nil ?_⟩
  show Code.wp _ _ _ _ _
  have S3 := hP _ 269 v3 (hP _ 268 (.string pre) S2 (by decide) (by decide)) (by decide) (by decide)
  generalize (a2.put (some 268) (.string pre)).put (some 269) v3 = a3 at S3
  obtain ⟨hz3, j1, -, -, -, j23, j24, -⟩ := S _ S3
  -- the clean part
  refine wp_seq ?_
  refine wp_region_lit ?_
  refine Fr.move ?_
  rw [j1]
  refine Fr.move ?_
  rw [eval_other _ _ _ _ (show 23 ≠ 270 by decide), j23]
  refine Fr.step rfl (run_to (s := s) (i := i) Tryd.underlying9 (by rw [eval_other _ _ _ _ (by decide)]; exact eval_same _ _ _ (by omega)) (eval_same _ _ _ (by rw [size_put]; omega)) hi) ?_
  refine call enters46 ?_
  have e : ∀ c : Act, c.tmps.size = 602 → c.eval (.tmp 24) = .pointer (some ⟨b, 0, none⟩) → (#[Operand.tmp 24, .tmp 272]).map (c.put (some 272) (.string (s.extract 0 i))).eval = #[.pointer (some ⟨b, 0, none⟩), .string (s.extract 0 i)] := by
    intro c hc h24
    simp [eval_same _ _ _ (show 272 < c.tmps.size by omega), eval_other _ 272 24 _ (by decide), h24]
  rw [e _ (by simp [size_put, hz3]) (by simp [eval_other, j24])]
  have hx : (s.extract 0 i).size = i := by simp [ByteArray.size_extract]; omega
  have hpl : pre.data.toList.length = pre.size := rfl
  refine (hK3.text hbl (s.extract 0 i) (by rw [hx, List.nil_append]; omega)).mono ?_
  rintro e' w4 ⟨v4, rfl, hK4⟩
  refine ⟨_, rfl, wpList_nil ?_⟩
  show Code.wp _ _ _ _ _
  have S4 := hP _ 273 v4 (hP _ 272 (.string (s.extract 0 i)) (hP _ 271 (.int .i64 (i : Int)) (hP _ 270 (.string s) S3 (by decide) (by decide)) (by decide) (by decide)) (by decide) (by decide)) (by decide) (by decide)
  generalize (((a3.put (some 270) (.string s)).put (some 271) (.int .i64 (i : Int))).put (some 272) (.string (s.extract 0 i))).put (some 273) v4 = a4 at S4
  obtain ⟨hz4, k1, k2, -, k15, k23, k24, kd⟩ := S _ S4
  -- what is left
  refine wp_seq ?_
  refine wp_region_lit ?_
  refine Fr.move ?_
  rw [k1]
  refine Fr.move ?_
  rw [eval_other _ _ _ _ (show 23 ≠ 274 by decide), k23]
  refine Fr.step rfl (run_from (s := s) (i := i) Tryd.underlying9 (by rw [eval_other _ _ _ _ (by decide)]; exact eval_same _ _ _ (by omega)) (eval_same _ _ _ (by rw [size_put]; omega)) hi) ?_
  refine assign ?_
  refine wpList_nil ?_
  rw [eval_same _ _ _ (by simp [size_put, hz4])]
  show Code.wp _ _ _ _ _
  have hy := Lib.tail_size s i
  have hl1 : ([] ++ pre.data.toList ++ (s.extract 0 i).data.toList : List UInt8).length = pre.size + i := by
    have : (s.extract 0 i).data.toList.length = (s.extract 0 i).size := rfl
    rw [List.nil_append, List.length_append, this, hx, hpl]
  refine tail_walk (s := s.extract i s.size) (suf := suf) hT hbl ⟨by simp [size_put, hz4], eval_same _ _ _ (by simp [size_put, hz4]), by simp [eval_other, k2], by simp [eval_other, k15], by simp [eval_other, k24], by simp [defers_put, kd]⟩ hK4 (by omega) (by omega) (by omega) ?_
  intro w' hb'
  have := H w' hb'
  simpa using this
end Go.Proofs.YtlgoghonnnobfaaDoor.Enc
namespace Go.Proofs.YtlgoghonnnobfaaDoor.Enc
open Go Go.RowKit Go.Proofs.YtlgoghonnnobfaaDoor.Fr
set_option linter.unusedVariables false
set_option linter.unusedSimpArgs false
/-! ### where the encoder begins to change a text -/
theorem enters43 : Enters Tryd.prog 43 := enters_of Tryd.func43 (by kernel_rfl) rfl
theorem enters44 : Enters Tryd.prog 44 := enters_of Tryd.func44 (by kernel_rfl) rfl
theorem run_func {a : Act} {w : World} {d : Option Tmp} {ty : TypeId} {pos : String} {aft : Array Edge} {g : Option (Nat × Bool)} {f : Nat} {x : Operand} {v : Value} (hx : a.eval x = v) :
    (execOp a.eval { dst := d, op := .makeFunc (.func f) #[] #[x], type := ty, pos := pos, after := aft, guard := g }).run Tryd.prog w = .ok (.value (.func (.func f) #[] #[v])) w := by
  simp only [execOp, Instr.makeFunc, List.map_toArray, List.map_cons, List.map_nil, hx]
  simp [go_sem]
def idxE (m : Int) (s : ByteArray) : Int := Lib.idxFunc (fun x => stopE m (x : Int)) true s
/-- What a text with a head and a tail of its own is written as. -/
def bodyL (m : Int) (pre suf s : ByteArray) : List UInt8 :=
  if pre.data.toList = [] ∧ suf.data.toList = [] then (if idxE m s = -1 then s.data.toList else (s.extract 0 (idxE m s).toNat).data.toList ++ encAll m (s.extract (idxE m s).toNat s.size))
  else pre.data.toList ++ encAll m s ++ suf.data.toList
theorem idx_range (m : Int) (s : ByteArray) : idxE m s = -1 ∨ (0 ≤ idxE m s ∧ idxE m s < s.size) := by
  have := Lib.idxFuncFrom_range (fun x => stopE m (x : Int)) true s s.size 0
  unfold idxE Lib.idxFunc
  omega
theorem index_call (m : Int) (s : ByteArray) (b0 : Nat) (w : World) (hbox : w.heap[b0]? = some (.cells #[.int .u64 m] 39 (0, 0))) :
    Calls Tryd.prog 43 #[.string s, .func (.func 44) #[] #[.pointer (some ⟨b0, 0, none⟩)]] w fun e w' => e = .returned (.int .i64 (idxE m s)) ∧ Below w.heap.size w w' := by
  refine Shelf.Tryd.strings_IndexFunc 44 #[.pointer (some ⟨b0, 0, none⟩)] enters44 (fun x => stopE m (x : Int)) s w ?_
  intro W x hb
  have h := pred44 W ⟨b0, 0, none⟩ m (x : Int) (by rw [Lib.cell_of_heap (old_block hb hbox)]; rfl)
  exact h.mono fun e w' hh => ⟨hh.1, 0, by rw [← hh.2]; rfl⟩
theorem extract_all (s : ByteArray) : s.extract 0 s.size = s := by simp
set_option maxRecDepth 100000 in
set_option maxHeartbeats 2000000 in
theorem idx_walk {R : Ending → World → Prop} {s pre suf : ByteArray} {a : Act} {w0 w : World} {m : Int} (hT : Lib.Utf8Tabs 0 1 w0)
    (hz : a.tmps.size = 602) (h1 : a.eval (.tmp 1) = .string s) (h2 : a.eval (.tmp 2) = .pointer (some ⟨w0.heap.size, 0, none⟩)) (h5 : a.eval (.tmp 5) = .string pre) (h15 : a.eval (.tmp 15) = .string suf) (hd : a.defers = [])
    (hbox : w.heap[w0.heap.size]? = some (.cells #[.int .u64 m] 39 (0, 0))) (hbel : Below w0.heap.size w0 w) (hs : s.size ≤ 500000) (hpre : pre.size ≤ 500000) (hsuf : suf.size ≤ 500000) (hpos : 1 ≤ s.size + pre.size + suf.size)
    (H : ∀ w', Below w0.heap.size w0 w' → R (.returned (.string ⟨(bodyL m pre suf s).toArray⟩)) w') :
    (piece [1, 1, 1, 1, 1, 1, 1, 1, 1, 1, 1] (Tryd.f29.body.getD .skip)).wp Tryd.prog (bodyPost Tryd.prog Tryd.f29 R) a w := by
  conv => arg 2; whnf
  refine wp_seq (wp_region_lit (assign ?_))
  refine wpList_nil ?_
  rw [eval_const]
  show Code.wp _ _ _ _ _
  have e1 : (a.put (some 23) (.int .i64 0)).eval (.tmp 1) = .string s := by simp [eval_other, h1]
  have e2 : (a.put (some 23) (.int .i64 0)).eval (.tmp 2) = .pointer (some ⟨w0.heap.size, 0, none⟩) := by simp [eval_other, h2]
  have e5 : (a.put (some 23) (.int .i64 0)).eval (.tmp 5) = .string pre := by simp [eval_other, h5]
  have e15 : (a.put (some 23) (.int .i64 0)).eval (.tmp 15) = .string suf := by simp [eval_other, h15]
  have e23 : (a.put (some 23) (.int .i64 0)).eval (.tmp 23) = .int .i64 0 := eval_same _ _ _ (by omega)
  have hd1 : (a.put (some 23) (.int .i64 0)).defers = [] := by rw [defers_put]; exact hd
  have hz1 : (a.put (some 23) (.int .i64 0)).tmps.size = 602 := by rw [size_put]; exact hz
  generalize (a.put (some 23) (.int .i64 0)) = a1 at e1 e2 e5 e15 e23 hd1 hz1
  clear h1 h2 h5 h15 hd hz a
  have te : (⟨#[]⟩ : ByteArray).toList = [] := by rw [Lib.toList_data]
  have S : ∀ c : Act, Same 247 258 a1 c → c.tmps.size = 602 ∧ c.eval (.tmp 1) = .string s ∧ c.eval (.tmp 2) = .pointer (some ⟨w0.heap.size, 0, none⟩) ∧ c.eval (.tmp 5) = .string pre ∧ c.eval (.tmp 15) = .string suf ∧ c.eval (.tmp 23) = .int .i64 0 ∧ c.defers = [] := fun c hc =>
    ⟨hc.size.trans hz1, (hc.slot 1 (by decide)).trans e1, (hc.slot 2 (by decide)).trans e2, (hc.slot 5 (by decide)).trans e5, (hc.slot 15 (by decide)).trans e15, (hc.slot 23 (by decide)).trans e23, hc.defers.trans hd1⟩
  refine wp_seq ?_
  refine wp_seq ?_
  refine wp_region_lit ?_
  refine Fr.move ?_
  rw [e5]
  refine Fr.step rfl (run_eqls (s1 := pre) (s2 := ⟨#[]⟩) Tryd.underlying9 (eval_same _ _ _ (by omega)) rfl) ?_
  rw [te]
  refine Fr.move ?_
  rw [eval_same _ _ _ (by rw [size_put]; omega)]
  have S1 : Same 247 258 a1 (((a1.put (some 247) (.string pre)).put (some 248) (.bool (pre.toList == []))).put (some 249) (.bool (pre.toList == []))) := (((Same.refl a1).put _ _ (by decide) (by decide)).put _ _ (by decide) (by decide)).put _ _ (by decide) (by decide)
  have e249 := eval_same ((a1.put (some 247) (.string pre)).put (some 248) (.bool (pre.toList == []))) 249 (.bool (pre.toList == [])) (by simp [size_put, hz1])
  show wpList _ _ _ _ (((a1.put (some 247) (.string pre)).put (some 248) (.bool (pre.toList == []))).put (some 249) (.bool (pre.toList == []))) w
  generalize (((a1.put (some 247) (.string pre)).put (some 248) (.bool (pre.toList == []))).put (some 249) (.bool (pre.toList == []))) = a2 at S1 e249
  obtain ⟨hz2, -, -, -, i15, -, -⟩ := S _ S1
  have key : ∀ (a3 : Act), Same 247 258 a1 a3 → a3.eval (.tmp 252) = .bool (decide (pre.data.toList = [] ∧ suf.data.toList = [])) →
      (piece [1, 1, 1, 1, 1, 1, 1, 1, 1, 1, 1, 1, 0, 1] (Tryd.f29.body.getD .skip)).wp Tryd.prog (Exit.then ((piece [1, 1, 1, 1, 1, 1, 1, 1, 1, 1, 1, 1, 1] (Tryd.f29.body.getD .skip)).wp Tryd.prog (bodyPost Tryd.prog Tryd.f29 R)) (bodyPost Tryd.prog Tryd.f29 R)) a3 w := by
    intro a3 S3 e252
    obtain ⟨hz3, k1, k2, k5, k15, k23, kd⟩ := S _ S3
    have fin : ∀ (a4 : Act) (w4 : World) (j : Int), Same 247 258 a1 a4 ∨ (∃ b : Act, Same 247 258 a1 b ∧ a4 = b.put (some 23) (.int .i64 j)) → a4.eval (.tmp 23) = .int .i64 j → w4.heap[w0.heap.size]? = some (.cells #[.int .u64 m] 39 (0, 0)) → Below w0.heap.size w0 w4 → (j = -1 ∨ (0 ≤ j ∧ j ≤ s.size)) →
        (∀ w', Below w0.heap.size w0 w' → R (.returned (.string ⟨(if j = -1 then s.data.toList else pre.data.toList ++ (s.extract 0 j.toNat).data.toList ++ encAll m (s.extract j.toNat s.size) ++ suf.data.toList).toArray⟩)) w') →
        (piece [1, 1, 1, 1, 1, 1, 1, 1, 1, 1, 1, 1, 1] (Tryd.f29.body.getD .skip)).wp Tryd.prog (bodyPost Tryd.prog Tryd.f29 R) a4 w4 := by
      intro a4 w4 j h4 g23 gbox gbel gj gR
      have hh : a4.tmps.size = 602 ∧ a4.eval (.tmp 1) = .string s ∧ a4.eval (.tmp 2) = .pointer (some ⟨w0.heap.size, 0, none⟩) ∧ a4.eval (.tmp 5) = .string pre ∧ a4.eval (.tmp 15) = .string suf ∧ a4.defers = [] := by
        rcases h4 with h4 | ⟨b, h4, rfl⟩
        · obtain ⟨x1, x2, x3, x4, x5, _, x7⟩ := S _ h4
          exact ⟨x1, x2, x3, x4, x5, x7⟩
        · obtain ⟨x1, x2, x3, x4, x5, _, x7⟩ := S _ h4
          exact ⟨by rw [size_put]; exact x1, (eval_other _ _ _ _ (by decide)).trans x2, (eval_other _ _ _ _ (by decide)).trans x3, (eval_other _ _ _ _ (by decide)).trans x4, (eval_other _ _ _ _ (by decide)).trans x5, (defers_put _ _ _).trans x7⟩
      obtain ⟨x1, x2, x3, x4, x5, x6⟩ := hh
      conv => arg 2; whnf
      refine wp_seq ?_
      refine wp_seq ?_
      refine wp_region_lit ?_
      refine Fr.move ?_
      rw [g23]
      refine Fr.step rfl (run_eqli (m := j) (n := -1) Tryd.underlying3 (eval_same _ _ _ (by omega)) rfl) ?_
      refine wpList_nil ?_
      show Code.wp _ _ _ _ _
      refine wp_cond (eval_same _ _ _ (by rw [size_put]; omega)) ?_
      have y1 : ((a4.put (some 256) (.int .i64 j)).put (some 257) (.bool (j == -1))).eval (.tmp 1) = .string s := by simp [eval_other, x2]
      have y2 : ((a4.put (some 256) (.int .i64 j)).put (some 257) (.bool (j == -1))).eval (.tmp 2) = .pointer (some ⟨w0.heap.size, 0, none⟩) := by simp [eval_other, x3]
      have y5 : ((a4.put (some 256) (.int .i64 j)).put (some 257) (.bool (j == -1))).eval (.tmp 5) = .string pre := by simp [eval_other, x4]
      have y15 : ((a4.put (some 256) (.int .i64 j)).put (some 257) (.bool (j == -1))).eval (.tmp 15) = .string suf := by simp [eval_other, x5]
      have y23 : ((a4.put (some 256) (.int .i64 j)).put (some 257) (.bool (j == -1))).eval (.tmp 23) = .int .i64 j := by simp [eval_other, g23]
      have yd : ((a4.put (some 256) (.int .i64 j)).put (some 257) (.bool (j == -1))).defers = [] := by simp [defers_put, x6]
      have yz : ((a4.put (some 256) (.int .i64 j)).put (some 257) (.bool (j == -1))).tmps.size = 602 := by simp [size_put, x1]
      generalize ((a4.put (some 256) (.int .i64 j)).put (some 257) (.bool (j == -1))) = a5 at y1 y2 y5 y15 y23 yd yz
      by_cases hj : j = -1
      · rw [if_pos (by simpa using hj)]
        refine wp_seq ?_
        refine wp_region_lit ?_
        refine Fr.move ?_
        rw [y1]
        refine assign ?_
        refine wpList_nil ?_
        rw [eval_same _ _ _ (by omega)]
        show Code.wp _ _ _ _ _
        refine wp_ret ?_
        refine ret29 (by simp [defers_put, yd]) (eval_same _ _ _ (by rw [size_put]; omega)) ?_
        have := gR w4 gbel
        rw [if_pos hj] at this
        simpa using this
      · rw [if_neg (by simpa using hj)]
        refine wp_skip ?_
        show Code.wp _ _ _ _ _
        obtain ⟨i, rfl⟩ := Int.eq_ofNat_of_zero_le (show 0 ≤ j by omega)
        refine pre_walk (s := s) (pre := pre) (suf := suf) (i := i) hT yz y1 y2 y5 y15 y23 yd gbox gbel hs hpre hsuf (by omega) hpos ?_
        intro w' hb'
        have := gR w' hb'
        rw [if_neg (by omega)] at this
        simpa using this
    conv => arg 2; whnf
    refine wp_cond e252 ?_
    by_cases hc : pre.data.toList = [] ∧ suf.data.toList = []
    · rw [if_pos (by simpa using hc)]
      refine wp_region_lit ?_
      refine Fr.move ?_
      rw [k1]
      refine Fr.step rfl (run_func (v := .pointer (some ⟨w0.heap.size, 0, none⟩)) (by rw [eval_other _ _ _ _ (by decide)]; exact k2)) ?_
      refine call enters43 ?_
      have e : (#[Operand.tmp 253, .tmp 254]).map ((a3.put (some 253) (.string s)).put (some 254) (.func (.func 44) #[] #[.pointer (some ⟨w0.heap.size, 0, none⟩)])).eval = #[.string s, .func (.func 44) #[] #[.pointer (some ⟨w0.heap.size, 0, none⟩)]] := by
        have q1 : ((a3.put (some 253) (.string s)).put (some 254) (.func (.func 44) #[] #[.pointer (some ⟨w0.heap.size, 0, none⟩)])).eval (.tmp 253) = .string s := by rw [eval_other _ _ _ _ (by decide)]; exact eval_same _ _ _ (by omega)
        have q2 : ((a3.put (some 253) (.string s)).put (some 254) (.func (.func 44) #[] #[.pointer (some ⟨w0.heap.size, 0, none⟩)])).eval (.tmp 254) = .func (.func 44) #[] #[.pointer (some ⟨w0.heap.size, 0, none⟩)] := eval_same _ _ _ (by rw [size_put]; omega)
        simp only [List.map_toArray, List.map_cons, List.map_nil, q1, q2]
      rw [e]
      refine (index_call m s w0.heap.size w hbox).mono ?_
      rintro e' w4 ⟨rfl, hb4⟩
      refine ⟨_, rfl, ?_⟩
      refine assign ?_
      refine wpList_nil ?_
      rw [eval_same _ _ _ (by simp [size_put, hz3])]
      have S4 : Same 247 258 a1 (((a3.put (some 253) (.string s)).put (some 254) (.func (.func 44) #[] #[.pointer (some ⟨w0.heap.size, 0, none⟩)])).put (some 255) (.int .i64 (idxE m s))) := ((S3.put _ _ (by decide) (by decide)).put _ _ (by decide) (by decide)).put _ _ (by decide) (by decide)
      have hir := idx_range m s
      refine fin _ w4 (idxE m s) (.inr ⟨_, S4, rfl⟩) (eval_same _ _ _ (by simp [size_put, hz3])) (old_block hb4 hbox) (hbel.trans (hb4.mono hbel.size)) (by omega) ?_
      intro w' hb'
      have := H w' hb'
      rw [bodyL, if_pos hc] at this
      rw [hc.1, hc.2]
      simpa using this
    · rw [if_neg (by simpa using hc)]
      refine wp_skip ?_
      refine fin _ w 0 (.inl S3) k23 hbox hbel (by omega) ?_
      intro w' hb'
      have := H w' hb'
      rw [bodyL, if_neg hc] at this
      rw [if_neg (by decide)]
      have z : (s.extract 0 0).data.toList = [] := by simp
      simpa [z] using this
  by_cases hp : pre.data.toList = []
  · have hb : (pre.toList == []) = true := by rw [Lib.toList_data]; simp [hp]
    rw [hb] at e249
    refine guard_yes (j := 2) (b := true) (d := 249) rfl rfl (by omega) e249 rfl ?_
    rw [i15]
    refine guard_yes (j := 2) (b := true) (d := 249) rfl rfl (by rw [size_put]; omega) (by rw [eval_other _ _ _ _ (by decide)]; exact e249) (run_eqls (s1 := suf) (s2 := ⟨#[]⟩) Tryd.underlying9 (eval_same _ _ _ (by omega)) rfl) ?_
    rw [te]
    refine Fr.step rfl (run_pick (b := true) (by rw [eval_other _ _ _ _ (by decide), eval_other _ _ _ _ (by decide)]; exact e249)) ?_
    rw [if_pos rfl, eval_same _ _ _ (by rw [size_put]; omega)]
    refine wpList_nil ?_
    refine key _ (((S1.put _ _ (by decide) (by decide)).put _ _ (by decide) (by decide)).put _ _ (by decide) (by decide)) ?_
    rw [eval_same _ _ _ (by simp [size_put, hz2]), Lib.toList_data]
    congr 1
    rw [Bool.eq_iff_iff]
    simp [hp]
  · have hb : (pre.toList == []) = false := by rw [Lib.toList_data]; simpa using hp
    rw [hb] at e249
    refine guard_no (j := 2) (b := true) (c := false) (d := 249) rfl rfl (by omega) e249 (by decide) ?_
    refine guard_no (j := 2) (b := true) (c := false) (d := 249) rfl rfl (by rw [size_put]; omega) (by rw [eval_other _ _ _ _ (by decide)]; exact e249) (by decide) ?_
    refine Fr.step rfl (run_pick (b := false) (by rw [eval_other _ _ _ _ (by decide), eval_other _ _ _ _ (by decide)]; exact e249)) ?_
    rw [if_neg (by decide), eval_const]
    refine wpList_nil ?_
    refine key _ (((S1.put _ _ (by decide) (by decide)).put _ _ (by decide) (by decide)).put _ _ (by decide) (by decide)) ?_
    rw [eval_same _ _ _ (by simp [size_put, hz2])]
    congr 1
    rw [Bool.eq_iff_iff]
    simp [hp]
end Go.Proofs.YtlgoghonnnobfaaDoor.Enc
namespace Go.Proofs.YtlgoghonnnobfaaDoor.Enc
open Go Go.RowKit Go.Proofs.YtlgoghonnnobfaaDoor.Fr
set_option linter.unusedVariables false
set_option linter.unusedSimpArgs false
/-! ### the pieces ahead: the head and the tail of a text -/
section
variable {Q : Exit → Act → World → Prop} {a : Act} {w : World}
theorem qstep {P : Program} {ops : Array Oper} {C : World → Prop} {Q : Act → Prop} {o : Oper} {rest : List Oper} {v : Value} (hg : o.guard = none) (hr : ∀ w, (execOp a.eval o).run P w = .ok (.value v) w) (h : wpQuiet P ops C Q rest (a.put o.dst v)) : wpQuiet P ops C Q (o :: rest) a := by
  unfold wpQuiet
  rw [if_pos (by simp [Region.wanted, hg])]
  refine ⟨v, fun w _ => ?_, h⟩
  unfold Oper.quietAt
  rw [hr w]
  exact ⟨rfl, rfl⟩
theorem mixed : Tryd.prog.follows .mixedOrders = true := by kernel_rfl
/-- text, prefix = text[1:], S. -/
theorem r_cut1 {s : ByteArray} {S : ByteArray} {id x : Nat} {p0 p1 p2 p3 : String} {f0 f1 f2 f3 : Array Edge} (hB : Region.lexB .any ([{ dst := some (x), op := .move (.tmp 1), type := 9, pos := p0, after := f0, guard := none }, { dst := some (x + 1), op := .slice 9 (.tmp x) (some (.const (.int .i64 1))) none none, type := 9, pos := p1, after := f1, guard := none }, { dst := some (5), op := .assign (.const (.string S)), type := 9, pos := p2, after := f2, guard := none }, { dst := some (1), op := .assign (.tmp (x + 1)), type := 9, pos := p3, after := f3, guard := none }] : List Oper).toArray = true) (h1 : a.eval (.tmp 1) = .string s) (hs : 1 ≤ s.size) (hx : 5 < x ∧ x + 1 < a.tmps.size)
    (H : ∀ n, Q .normal ((((a.put (some x) (.string s)).put (some (x + 1)) (.string (s.extract 1 s.size))).put (some 5) (.string S)).put (some 1) (.string (s.extract 1 s.size))) (w.drewN n)) :
    (Code.region id #[{ dst := some (x), op := .move (.tmp 1), type := 9, pos := p0, after := f0, guard := none }, { dst := some (x + 1), op := .slice 9 (.tmp x) (some (.const (.int .i64 1))) none none, type := 9, pos := p1, after := f1, guard := none }, { dst := some (5), op := .assign (.const (.string S)), type := 9, pos := p2, after := f2, guard := none }, { dst := some (1), op := .assign (.tmp (x + 1)), type := 9, pos := p3, after := f3, guard := none }] true).wp Tryd.prog Q a w := by
  refine wp_region_quiet_lit mixed hB ?_
  refine qstep rfl (fun _ => rfl) ?_
  rw [h1]
  refine qstep rfl (fun w => run_from (s := s) (i := 1) Tryd.underlying9 (eval_same _ _ _ (by omega)) rfl hs) ?_
  refine qstep rfl (fun _ => rfl) ?_
  rw [eval_const]
  refine qstep rfl (fun _ => rfl) ?_
  refine wpQuiet_nil ?_
  rintro w' ⟨n, rfl⟩
  have e : (((a.put (some x) (.string s)).put (some (x + 1)) (.string (s.extract 1 s.size))).put (some 5) (.string S)).eval (.tmp (x + 1)) = .string (s.extract 1 s.size) := by
    rw [eval_other _ _ _ _ (by omega)]; exact eval_same _ _ _ (by rw [size_put]; omega)
  have := H n
  rw [← e] at this
  simpa [e] using this
theorem r_cutl {s : ByteArray} {S : ByteArray} {id x z l : Nat} {p0 p1 p2 p3 p4 : String} {f0 f1 f2 f3 f4 : Array Edge} (hB : Region.lexB .any ([{ dst := some (x), op := .move (.tmp 1), type := 9, pos := p0, after := f0, guard := none }, { dst := some (x + 1), op := .move (.tmp z), type := 3, pos := p1, after := f1, guard := none }, { dst := some (x + 2), op := .slice 9 (.tmp x) (some (.tmp (x + 1))) none none, type := 9, pos := p2, after := f2, guard := none }, { dst := some (5), op := .assign (.const (.string S)), type := 9, pos := p3, after := f3, guard := none }, { dst := some (1), op := .assign (.tmp (x + 2)), type := 9, pos := p4, after := f4, guard := none }] : List Oper).toArray = true) (h1 : a.eval (.tmp 1) = .string s) (hz : a.eval (.tmp z) = .int .i64 (l : Int)) (hs : l ≤ s.size) (hx : 5 < x ∧ x + 2 < a.tmps.size ∧ z < x)
    (H : ∀ n, Q .normal (((((a.put (some x) (.string s)).put (some (x + 1)) (.int .i64 (l : Int))).put (some (x + 2)) (.string (s.extract l s.size))).put (some 5) (.string S)).put (some 1) (.string (s.extract l s.size))) (w.drewN n)) :
    (Code.region id #[{ dst := some (x), op := .move (.tmp 1), type := 9, pos := p0, after := f0, guard := none }, { dst := some (x + 1), op := .move (.tmp z), type := 3, pos := p1, after := f1, guard := none }, { dst := some (x + 2), op := .slice 9 (.tmp x) (some (.tmp (x + 1))) none none, type := 9, pos := p2, after := f2, guard := none }, { dst := some (5), op := .assign (.const (.string S)), type := 9, pos := p3, after := f3, guard := none }, { dst := some (1), op := .assign (.tmp (x + 2)), type := 9, pos := p4, after := f4, guard := none }] true).wp Tryd.prog Q a w := by
  refine wp_region_quiet_lit mixed hB ?_
  refine qstep rfl (fun _ => rfl) ?_
  rw [h1]
  refine qstep rfl (fun _ => rfl) ?_
  rw [eval_other _ _ _ _ (show z ≠ x by omega), hz]
  refine qstep rfl (fun w => run_from (s := s) (i := l) Tryd.underlying9 (by rw [eval_other _ _ _ _ (by omega)]; exact eval_same _ _ _ (by omega)) (eval_same _ _ _ (by rw [size_put]; omega)) hs) ?_
  refine qstep rfl (fun _ => rfl) ?_
  rw [eval_const]
  refine qstep rfl (fun _ => rfl) ?_
  refine wpQuiet_nil ?_
  rintro w' ⟨n, rfl⟩
  have e : ((((a.put (some x) (.string s)).put (some (x + 1)) (.int .i64 (l : Int))).put (some (x + 2)) (.string (s.extract l s.size))).put (some 5) (.string S)).eval (.tmp (x + 2)) = .string (s.extract l s.size) := by
    rw [eval_other _ _ _ _ (by omega)]; exact eval_same _ _ _ (by rw [size_put, size_put]; omega)
  have := H n
  rw [← e] at this
  simpa [e] using this
/-- r, l := a decoder's answer. -/
theorem r_dec1 {s : ByteArray} {id y z g : Nat} {r l : Int} {I : World → Prop} {p0 p1 p2 p3 p4 p5 p6 : String} {f0 f1 f2 f3 f4 f5 f6 : Array Edge} (he : Enters Tryd.prog g) (hc : Calls Tryd.prog g #[.string s] w fun e w' => e = .returned (.tuple #[.int .i32 r, .int .i64 l]) ∧ I w') (h1 : a.eval (.tmp 1) = .string s) (hy : z + 1 < y ∧ y + 4 < a.tmps.size)
    (H : ∀ w', I w' → Q .normal (((((((a.put (some (y + 1)) (.string s)).put (some (y + 2)) (.tuple #[.int .i32 r, .int .i64 l])).put (some y) (.tuple #[.int .i32 r, .int .i64 l])).put (some (y + 3)) (.int .i32 r)).put (some (y + 4)) (.int .i64 l)).put (some z) (.int .i32 r)).put (some (z + 1)) (.int .i64 l)) w') :
    (Code.region id #[{ dst := some (y + 1), op := .move (.tmp 1), type := 9, pos := p0, after := f0, guard := none }, { dst := some (y + 2), op := .call { callee := .value (.func g), args := #[.tmp (y + 1)], argTypes := #[9] }, type := 49, pos := p1, after := f1, guard := none }, { dst := some (y), op := .move (.tmp (y + 2)), type := 49, pos := p2, after := f2, guard := none }, { dst := some (y + 3), op := .extract (.tmp y) 0, type := 21, pos := p3, after := f3, guard := none }, { dst := some (y + 4), op := .extract (.tmp y) 1, type := 3, pos := p4, after := f4, guard := none }, { dst := some (z), op := .assign (.tmp (y + 3)), type := 21, pos := p5, after := f5, guard := none }, { dst := some (z + 1), op := .assign (.tmp (y + 4)), type := 3, pos := p6, after := f6, guard := none }] false).wp Tryd.prog Q a w := by
  refine wp_region_lit ?_
  refine Fr.move ?_
  rw [h1]
  refine call he ?_
  have e : (#[Operand.tmp (y + 1)]).map (a.put (some (y + 1)) (.string s)).eval = #[.string s] := by simp [eval_same _ _ _ (show y + 1 < a.tmps.size by omega)]
  rw [e]
  refine hc.mono ?_
  rintro e' w' ⟨rfl, hI⟩
  refine ⟨_, rfl, ?_⟩
  refine Fr.move ?_
  rw [eval_same _ _ _ (by rw [size_put]; omega)]
  refine Fr.step rfl (run_extract (v := .int .i32 r) (eval_same _ _ _ (by rw [size_put, size_put]; omega)) (by rfl)) ?_
  refine Fr.step rfl (run_extract (vs := #[.int .i32 r, .int .i64 l]) (v := .int .i64 l) (by rw [eval_other _ _ _ _ (by omega)]; exact eval_same _ _ _ (by rw [size_put, size_put]; omega)) (by rfl)) ?_
  refine assign ?_
  rw [show (((((a.put (some (y + 1)) (.string s)).put (some (y + 2)) (.tuple #[.int .i32 r, .int .i64 l])).put (some y) (.tuple #[.int .i32 r, .int .i64 l])).put (some (y + 3)) (.int .i32 r)).put (some (y + 4)) (.int .i64 l)).eval (.tmp (y + 3)) = .int .i32 r from by
    rw [eval_other _ _ _ _ (by omega)]; exact eval_same _ _ _ (by simp only [size_put]; omega)]
  refine assign ?_
  rw [show ((((((a.put (some (y + 1)) (.string s)).put (some (y + 2)) (.tuple #[.int .i32 r, .int .i64 l])).put (some y) (.tuple #[.int .i32 r, .int .i64 l])).put (some (y + 3)) (.int .i32 r)).put (some (y + 4)) (.int .i64 l)).put (some z) (.int .i32 r)).eval (.tmp (y + 4)) = .int .i64 l from by
    rw [eval_other _ _ _ _ (by omega)]; exact eval_same _ _ _ (by simp only [size_put]; omega)]
  exact wpList_nil (H _ hI)
/-- text[0] == c. -/
theorem r_first {s : ByteArray} {id x : Nat} {c : Int} {p0 p1 p2 : String} {f0 f1 f2 : Array Edge} (h1 : a.eval (.tmp 1) = .string s) (hs : 0 < s.size) (hx : x + 1 < a.tmps.size)
    (H : Q .normal (((a.put (some x) (.string s)).put (some (x + 1)) (.int .u8 ((s[0]'hs).toNat : Int))).put (some (x + 2)) (.bool (((s[0]'hs).toNat : Int) == c))) w) :
    (Code.region id #[{ dst := some (x), op := .move (.tmp 1), type := 9, pos := p0, after := f0, guard := none }, { dst := some (x + 1), op := .index 9 (.tmp x) (.const (.int .i64 0)), type := 5, pos := p1, after := f1, guard := none }, { dst := some (x + 2), op := .binOp .eql 5 (.tmp (x + 1)) (.const (.int .u8 c)) 5, type := 4, pos := p2, after := f2, guard := none }] false).wp Tryd.prog Q a w := by
  refine wp_region_lit ?_
  refine Fr.move ?_
  rw [h1]
  refine Fr.step rfl (run_index (s := s) (i := 0) Tryd.underlying9 (eval_same _ _ _ (by omega)) rfl hs) ?_
  refine Fr.step rfl (run_eqli (m := ((s[0]'hs).toNat : Int)) (n := c) Tryd.underlying5 (eval_same _ _ _ (by rw [size_put]; omega)) rfl) ?_
  exact wpList_nil H
theorem r_isr {id x z : Nat} {r c : Int} {p0 p1 : String} {f0 f1 : Array Edge} (h1 : a.eval (.tmp z) = .int .i32 r) (hx : x < a.tmps.size)
    (H : Q .normal ((a.put (some x) (.int .i32 r)).put (some (x + 1)) (.bool (r == c))) w) :
    (Code.region id #[{ dst := some (x), op := .move (.tmp z), type := 21, pos := p0, after := f0, guard := none }, { dst := some (x + 1), op := .binOp .eql 21 (.tmp x) (.const (.int .i32 c)) 21, type := 4, pos := p1, after := f1, guard := none }] false).wp Tryd.prog Q a w := by
  refine wp_region_lit ?_
  refine Fr.move ?_
  rw [h1]
  refine Fr.step rfl (run_eqli (m := r) (n := c) Tryd.underlying21 (eval_same _ _ _ hx) rfl) ?_
  exact wpList_nil H
/-- mask.Has(f) && v == "". -/
theorem r_hasg {s : ByteArray} {id x v : Nat} {m f : Int} {pm : Addr} {p0 p1 p2 p3 p4 p5 : String} {f0 f1 f2 f3 f4 f5 : Array Edge} (h2 : a.eval (.tmp 2) = .pointer (some pm)) (hc : w.cell? pm = some (.int .u64 m)) (hv : a.eval (.tmp v) = .string s) (hx : 2 < x ∧ v < x ∧ x + 5 < a.tmps.size)
    (H : ∀ a', (∀ k, k < x → a'.eval (.tmp k) = a.eval (.tmp k)) → a'.tmps.size = a.tmps.size → a'.defers = a.defers → a'.eval (.tmp (x + 5)) = .bool (hb m f && decide (s.data.toList = [])) → Q .normal a' w) :
    (Code.region id #[{ dst := some (x), op := .load 39 (.tmp 2), type := 39, pos := p0, after := f0, guard := none }, { dst := some (x + 1), op := .call { callee := .value (.func 40), args := #[.tmp x, .const (.int .u64 f)], argTypes := #[39, 39] }, type := 4, pos := p1, after := f1, guard := none }, { dst := some (x + 2), op := .move (.tmp (x + 1)), type := 4, pos := p2, after := f2, guard := none }, { dst := some (x + 3), op := .move (.tmp v), type := 9, pos := p3, after := f3, guard := some (2, true) }, { dst := some (x + 4), op := .binOp .eql 9 (.tmp (x + 3)) (.const (.string ⟨#[]⟩)) 9, type := 4, pos := p4, after := f4, guard := some (2, true) }, { dst := some (x + 5), op := .pick (.tmp (x + 2)) (.tmp (x + 4)) (.const (.bool false)), type := 4, pos := p5, after := f5, guard := none }] false).wp Tryd.prog Q a w := by
  refine wp_region_lit ?_
  refine Fr.load Tryd.underlying39 h2 hc ?_
  refine call enters40 ?_
  have e : (#[Operand.tmp x, .const (.int .u64 f)]).map (a.put (some x) (.int .u64 m)).eval = #[.int .u64 m, .int .u64 f] := by
    simp [eval_same _ _ _ (show x < a.tmps.size by omega), eval_const]
  rw [e]
  refine (has_any m f w).mono ?_
  rintro e w' ⟨rfl, rfl⟩
  refine ⟨_, rfl, ?_⟩
  refine Fr.move ?_
  rw [eval_same _ _ _ (by rw [size_put]; omega)]
  have e2 := eval_same ((a.put (some x) (.int .u64 m)).put (some (x + 1)) (.bool (hb m f))) (x + 2) (.bool (hb m f)) (by rw [size_put, size_put]; omega)
  have k1 : ∀ k, k < x → (((a.put (some x) (.int .u64 m)).put (some (x + 1)) (.bool (hb m f))).put (some (x + 2)) (.bool (hb m f))).eval (.tmp k) = a.eval (.tmp k) := fun k hk => by
    rw [eval_other _ _ _ _ (by omega), eval_other _ _ _ _ (by omega), eval_other _ _ _ _ (by omega)]
  have z1 : (((a.put (some x) (.int .u64 m)).put (some (x + 1)) (.bool (hb m f))).put (some (x + 2)) (.bool (hb m f))).tmps.size = a.tmps.size := by simp only [size_put]
  have d1 : (((a.put (some x) (.int .u64 m)).put (some (x + 1)) (.bool (hb m f))).put (some (x + 2)) (.bool (hb m f))).defers = a.defers := by simp only [defers_put]
  show wpList _ _ _ _ (((a.put (some x) (.int .u64 m)).put (some (x + 1)) (.bool (hb m f))).put (some (x + 2)) (.bool (hb m f))) w
  generalize (((a.put (some x) (.int .u64 m)).put (some (x + 1)) (.bool (hb m f))).put (some (x + 2)) (.bool (hb m f))) = a1 at e2 k1 z1 d1
  have te : (⟨#[]⟩ : ByteArray).toList = [] := by rw [Lib.toList_data]
  cases hh : hb m f with
  | true =>
    rw [hh] at e2
    refine guard_yes (j := 2) (b := true) (d := x + 2) rfl rfl (by omega) e2 rfl ?_
    rw [k1 v hx.2.1, hv]
    refine guard_yes (j := 2) (b := true) (d := x + 2) rfl rfl (by rw [size_put]; omega) (by rw [eval_other _ _ _ _ (by omega)]; exact e2) (run_eqls (s1 := s) (s2 := ⟨#[]⟩) Tryd.underlying9 (eval_same _ _ _ (by omega)) rfl) ?_
    rw [te]
    refine Fr.step rfl (run_pick (b := true) (by rw [eval_other _ _ _ _ (by omega), eval_other _ _ _ _ (by omega)]; exact e2)) ?_
    rw [if_pos rfl, eval_same _ _ _ (by rw [size_put]; omega)]
    refine wpList_nil (H _ (fun k hk => ?_) (by simp only [size_put]; exact z1) (by simp only [defers_put]; exact d1) ?_)
    · rw [eval_other _ _ _ _ (by omega), eval_other _ _ _ _ (by omega), eval_other _ _ _ _ (by omega)]; exact k1 k hk
    · rw [eval_same _ _ _ (by simp only [size_put]; omega), Lib.toList_data, hh, Bool.true_and]
      congr 1
      rw [Bool.eq_iff_iff]
      simp
  | false =>
    rw [hh] at e2
    refine guard_no (j := 2) (b := true) (c := false) (d := x + 2) rfl rfl (by omega) e2 (by decide) ?_
    refine guard_no (j := 2) (b := true) (c := false) (d := x + 2) rfl rfl (by rw [size_put]; omega) (by rw [eval_other _ _ _ _ (by omega)]; exact e2) (by decide) ?_
    refine Fr.step rfl (run_pick (b := false) (by rw [eval_other _ _ _ _ (by omega), eval_other _ _ _ _ (by omega)]; exact e2)) ?_
    rw [if_neg (by decide), eval_const]
    refine wpList_nil (H _ (fun k hk => ?_) (by simp only [size_put]; exact z1) (by simp only [defers_put]; exact d1) ?_)
    · rw [eval_other _ _ _ _ (by omega), eval_other _ _ _ _ (by omega), eval_other _ _ _ _ (by omega)]; exact k1 k hk
    · rw [eval_same _ _ _ (by simp only [size_put]; omega), hh]; rfl
end
end Go.Proofs.YtlgoghonnnobfaaDoor.Enc
namespace Go.Proofs.YtlgoghonnnobfaaDoor.Enc
open Go Go.RowKit Go.Proofs.YtlgoghonnnobfaaDoor.Fr
set_option linter.unusedVariables false
set_option linter.unusedSimpArgs false
/-! ### the head of a text: a character that the bits of the left take -/
def lstep (m f : Int) (c R : Nat) (S : List UInt8) (p : ByteArray × ByteArray) : ByteArray × ByteArray :=
  if hb m f = true ∧ p.1.data.toList = [] then
    (if (p.2.get! 0).toNat = c then (⟨S.toArray⟩, p.2.extract 1 p.2.size)
     else if (Lib.decodeGo p.2).1 = R then (⟨(226 :: 128 :: 155 :: S).toArray⟩, p.2.extract (Lib.decodeGo p.2).2 p.2.size) else p)
  else p
structure HC (s pre : ByteArray) (pm : Addr) (a : Act) : Prop where
  size : a.tmps.size = 602
  s1 : a.eval (.tmp 1) = .string s
  s2 : a.eval (.tmp 2) = .pointer (some pm)
  s5 : a.eval (.tmp 5) = .string pre
  defers : a.defers = []
theorem HC.put {s pre : ByteArray} {pm : Addr} {a : Act} (h : HC s pre pm a) (d : Nat) (v : Value) (h1 : 5 < d) : HC s pre pm (a.put (some d) v) :=
  ⟨(size_put _ _ _).trans h.size, (eval_other _ _ _ _ (by omega)).trans h.s1, (eval_other _ _ _ _ (by omega)).trans h.s2, (eval_other _ _ _ _ (by omega)).trans h.s5, (defers_put _ _ _).trans h.defers⟩
theorem HC.set {s pre s' pre' : ByteArray} {pm : Addr} {a : Act} (h : HC s pre pm a) : HC s' pre' pm ((a.put (some 5) (.string pre')).put (some 1) (.string s')) :=
  ⟨by simp only [size_put]; exact h.size, eval_same _ _ _ (by rw [size_put, h.size]; decide), by rw [eval_other _ _ _ _ (by decide), eval_other _ _ _ _ (by decide)]; exact h.s2, by rw [eval_other _ _ _ _ (by decide)]; exact eval_same _ _ _ (by rw [h.size]; decide), by simp only [defers_put]; exact h.defers⟩
structure WB (w0 : World) (m : Int) (w : World) : Prop where
  box : w.heap[w0.heap.size]? = some (.cells #[.int .u64 m] 39 (0, 0))
  below : Below w0.heap.size w0 w
theorem WB.old {w0 w w' : World} {m : Int} (h : WB w0 m w) (hb : Below w.heap.size w w') : WB w0 m w' := ⟨old_block hb h.box, h.below.trans (hb.mono h.below.size)⟩
theorem WB.drewN {w0 w : World} {m : Int} (h : WB w0 m w) (n : Nat) : WB w0 m (w.drewN n) := h.old (below_drewN w n)
theorem WB.cell {w0 w : World} {m : Int} (h : WB w0 m w) : w.cell? ⟨w0.heap.size, 0, none⟩ = some (.int .u64 m) := by rw [Lib.cell_of_heap h.box]; rfl
theorem dec_call {w0 w : World} {m : Int} (hT : Lib.Utf8Tabs 0 1 w0) (h : WB w0 m w) (s : ByteArray) : Calls Tryd.prog 41 #[.string s] w fun e w' => e = .returned (.tuple #[.int .i32 ((Lib.decodeGo s).1 : Int), .int .i64 ((Lib.decodeGo s).2 : Int)]) ∧ WB w0 m w' :=
  (Shelf.Tryd.utf8_DecodeRuneInString s w (Utf8Tabs_below hT h.below)).mono fun e w' hh => ⟨hh.1, h.old hh.2⟩
theorem get_zero (s : ByteArray) (h : 0 < s.size) : s[0]'h = s.get! 0 := by
  simp only [ByteArray.get!, getElem!_def]
  have h' : 0 < s.data.size := h
  rw [Array.getElem?_eq_getElem h']
  rfl
theorem go_fit (s : ByteArray) (h : 0 < s.size) : (Lib.decodeGo s).2 ≤ s.size := by
  unfold Lib.decodeGo
  rw [if_neg (by omega)]
  have := dec_fit s 0 h
  omega
set_option maxRecDepth 100000 in
set_option maxHeartbeats 1000000 in
theorem lead1 {Q : Exit → Act → World → Prop} {a : Act} {w0 w : World} {m : Int} {s pre : ByteArray} (hT : Lib.Utf8Tabs 0 1 w0) (hA : HC s pre ⟨w0.heap.size, 0, none⟩ a) (hW : WB w0 m w) (hs : pre.data.toList = [] → 0 < s.size) (hpre : pre.data.toList = [])
    (H : ∀ a' w', HC (lstep m 131072 32 9248 [226, 144, 160] (pre, s)).2 (lstep m 131072 32 9248 [226, 144, 160] (pre, s)).1 ⟨w0.heap.size, 0, none⟩ a' → WB w0 m w' → Q .normal a' w') :
    (piece [1, 1, 1, 1, 1, 0] (Tryd.f29.body.getD .skip)).wp Tryd.prog Q a w := by
  conv => arg 2; whnf
  refine wp_seq (r_has (by rw [hA.size]; decide) hA.s2 hW.cell ?_)
  show Code.wp _ _ _ _ _
  have hA1 := (hA.put 47 (.int .u64 m) (by decide)).put (47 + 1) (.bool (hb m 131072)) (by decide)
  have ec := eval_same (a.put (some 47) (.int .u64 m)) (47 + 1) (.bool (hb m 131072)) (by rw [size_put, hA.size]; decide)
  generalize (a.put (some 47) (.int .u64 m)).put (some (47 + 1)) (.bool (hb m 131072)) = a1 at hA1 ec
  refine wp_cond ec ?_
  have hcond : (hb m 131072 = true ∧ pre.data.toList = []) ↔ hb m 131072 = true := ⟨fun h => h.1, fun h => ⟨h, hpre⟩⟩
  cases hh : hb m 131072 with
  | false =>
    rw [if_neg (by decide)]
    exact wp_skip (H _ _ (by rw [lstep, if_neg (by rw [hcond, hh]; decide)]; exact hA1) hW)
  | true =>
    have hon : hb m 131072 = true ∧ pre.data.toList = [] := hcond.2 hh
    rw [if_pos rfl]
    have hs0 := hs hon.2
    have hb := get_zero s hs0
    refine wp_seq (r_first hA1.s1 hs0 (by rw [hA1.size]; decide) ?_)
    show Code.wp _ _ _ _ _
    rw [hb]
    have hA2 := ((hA1.put 49 (.string s) (by decide)).put (49 + 1) (.int .u8 ((s.get! 0).toNat : Int)) (by decide)).put (49 + 2) (.bool (((s.get! 0).toNat : Int) == 32)) (by decide)
    have ef := eval_same ((a1.put (some 49) (.string s)).put (some (49 + 1)) (.int .u8 ((s.get! 0).toNat : Int))) (49 + 2) (.bool (((s.get! 0).toNat : Int) == 32)) (by simp only [size_put, hA1.size]; decide)
    generalize (((a1.put (some 49) (.string s)).put (some (49 + 1)) (.int .u8 ((s.get! 0).toNat : Int))).put (some (49 + 2)) (.bool (((s.get! 0).toNat : Int) == 32))) = a2 at hA2 ef
    refine wp_cond ef ?_
    by_cases hc : (s.get! 0).toNat = 32
    · rw [if_pos (by simp [hc])]
      refine r_cut1 (S := ⟨#[226, 144, 160]⟩) (by kernel_rfl) hA2.s1 (by omega) (by rw [hA2.size]; decide) fun n => ?_
      refine H _ _ ?_ (hW.drewN n)
      rw [lstep, if_pos hon, if_pos hc]
      exact ((hA2.put _ _ (by decide)).put _ _ (by decide)).set
    · rw [if_neg (by simp; omega)]
      refine wp_seq (r_dec1 (y := 54) (z := 6) enters41 (dec_call hT hW s) hA2.s1 (by rw [hA2.size]; decide) fun w' hW' => ?_)
      show Code.wp _ _ _ _ _
      have hA3 := ((((((hA2.put (54 + 1) (.string s) (by decide)).put (54 + 2) (.tuple #[.int .i32 ((Lib.decodeGo s).1 : Int), .int .i64 ((Lib.decodeGo s).2 : Int)]) (by decide)).put 54 (.tuple #[.int .i32 ((Lib.decodeGo s).1 : Int), .int .i64 ((Lib.decodeGo s).2 : Int)]) (by decide)).put (54 + 3) (.int .i32 ((Lib.decodeGo s).1 : Int)) (by decide)).put (54 + 4) (.int .i64 ((Lib.decodeGo s).2 : Int)) (by decide)).put 6 (.int .i32 ((Lib.decodeGo s).1 : Int)) (by decide)).put (6 + 1) (.int .i64 ((Lib.decodeGo s).2 : Int)) (by decide)
      have er := eval_same ((((((a2.put (some (54 + 1)) (.string s)).put (some (54 + 2)) (.tuple #[.int .i32 ((Lib.decodeGo s).1 : Int), .int .i64 ((Lib.decodeGo s).2 : Int)])).put (some 54) (.tuple #[.int .i32 ((Lib.decodeGo s).1 : Int), .int .i64 ((Lib.decodeGo s).2 : Int)])).put (some (54 + 3)) (.int .i32 ((Lib.decodeGo s).1 : Int))).put (some (54 + 4)) (.int .i64 ((Lib.decodeGo s).2 : Int)))) 6 (.int .i32 ((Lib.decodeGo s).1 : Int)) (by simp only [size_put, hA2.size]; decide)
      have er' := (eval_other ((((((a2.put (some (54 + 1)) (.string s)).put (some (54 + 2)) (.tuple #[.int .i32 ((Lib.decodeGo s).1 : Int), .int .i64 ((Lib.decodeGo s).2 : Int)])).put (some 54) (.tuple #[.int .i32 ((Lib.decodeGo s).1 : Int), .int .i64 ((Lib.decodeGo s).2 : Int)])).put (some (54 + 3)) (.int .i32 ((Lib.decodeGo s).1 : Int))).put (some (54 + 4)) (.int .i64 ((Lib.decodeGo s).2 : Int))).put (some 6) (.int .i32 ((Lib.decodeGo s).1 : Int))) (6 + 1) 6 (.int .i64 ((Lib.decodeGo s).2 : Int)) (by decide)).trans er
      have el := eval_same ((((((a2.put (some (54 + 1)) (.string s)).put (some (54 + 2)) (.tuple #[.int .i32 ((Lib.decodeGo s).1 : Int), .int .i64 ((Lib.decodeGo s).2 : Int)])).put (some 54) (.tuple #[.int .i32 ((Lib.decodeGo s).1 : Int), .int .i64 ((Lib.decodeGo s).2 : Int)])).put (some (54 + 3)) (.int .i32 ((Lib.decodeGo s).1 : Int))).put (some (54 + 4)) (.int .i64 ((Lib.decodeGo s).2 : Int))).put (some 6) (.int .i32 ((Lib.decodeGo s).1 : Int))) (6 + 1) (.int .i64 ((Lib.decodeGo s).2 : Int)) (by simp only [size_put, hA2.size]; decide)
      generalize ((((((a2.put (some (54 + 1)) (.string s)).put (some (54 + 2)) (.tuple #[.int .i32 ((Lib.decodeGo s).1 : Int), .int .i64 ((Lib.decodeGo s).2 : Int)])).put (some 54) (.tuple #[.int .i32 ((Lib.decodeGo s).1 : Int), .int .i64 ((Lib.decodeGo s).2 : Int)])).put (some (54 + 3)) (.int .i32 ((Lib.decodeGo s).1 : Int))).put (some (54 + 4)) (.int .i64 ((Lib.decodeGo s).2 : Int))).put (some 6) (.int .i32 ((Lib.decodeGo s).1 : Int))).put (some (6 + 1)) (.int .i64 ((Lib.decodeGo s).2 : Int)) = a3 at hA3 er' el
      clear er
      refine wp_seq (r_isr er' (by rw [hA3.size]; decide) ?_)
      show Code.wp _ _ _ _ _
      have hA4 := (hA3.put 59 (.int .i32 ((Lib.decodeGo s).1 : Int)) (by decide)).put (59 + 1) (.bool (((Lib.decodeGo s).1 : Int) == 9248)) (by decide)
      have et := eval_same (a3.put (some 59) (.int .i32 ((Lib.decodeGo s).1 : Int))) (59 + 1) (.bool (((Lib.decodeGo s).1 : Int) == 9248)) (by simp only [size_put, hA3.size]; decide)
      have el2 : ((a3.put (some 59) (.int .i32 ((Lib.decodeGo s).1 : Int))).put (some (59 + 1)) (.bool (((Lib.decodeGo s).1 : Int) == 9248))).eval (.tmp (6 + 1)) = .int .i64 ((Lib.decodeGo s).2 : Int) := by
        rw [eval_other _ _ _ _ (by decide), eval_other _ _ _ _ (by decide)]; exact el
      generalize ((a3.put (some 59) (.int .i32 ((Lib.decodeGo s).1 : Int))).put (some (59 + 1)) (.bool (((Lib.decodeGo s).1 : Int) == 9248))) = a4 at hA4 et el2
      refine wp_cond et ?_
      by_cases hr : (Lib.decodeGo s).1 = 9248
      · rw [if_pos (by simp [hr])]
        refine r_cutl (S := ⟨#[226, 128, 155, 226, 144, 160]⟩) (by kernel_rfl) hA4.s1 el2 (go_fit s hs0) (by rw [hA4.size]; decide) fun n => ?_
        refine H _ _ ?_ (hW'.drewN n)
        rw [lstep, if_pos hon, if_neg hc, if_pos hr]
        exact (((hA4.put _ _ (by decide)).put _ _ (by decide)).put _ _ (by decide)).set
      · rw [if_neg (by simp; omega)]
        exact wp_skip (H _ _ (by rw [lstep, if_pos hon, if_neg hc, if_neg hr]; exact hA4) hW')
set_option maxRecDepth 100000 in
set_option maxHeartbeats 1000000 in
theorem lead2 {Q : Exit → Act → World → Prop} {a : Act} {w0 w : World} {m : Int} {s pre : ByteArray} (hT : Lib.Utf8Tabs 0 1 w0) (hA : HC s pre ⟨w0.heap.size, 0, none⟩ a) (hW : WB w0 m w) (hs : pre.data.toList = [] → 0 < s.size)
    (H : ∀ a' w', HC (lstep m 262144 46 65294 [239, 188, 142] (pre, s)).2 (lstep m 262144 46 65294 [239, 188, 142] (pre, s)).1 ⟨w0.heap.size, 0, none⟩ a' → WB w0 m w' → Q .normal a' w') :
    (piece [1, 1, 1, 1, 1, 1, 0] (Tryd.f29.body.getD .skip)).wp Tryd.prog Q a w := by
  conv => arg 2; whnf
  refine wp_seq (r_hasg hA.s2 hW.cell hA.s5 (by rw [hA.size]; decide) fun a1 k1 z1 d1 ec => ?_)
  show Code.wp _ _ _ _ _
  have hA1 : HC s pre ⟨w0.heap.size, 0, none⟩ a1 := ⟨z1.trans hA.size, (k1 _ (by decide)).trans hA.s1, (k1 _ (by decide)).trans hA.s2, (k1 _ (by decide)).trans hA.s5, d1.trans hA.defers⟩
  refine wp_cond ec ?_
  cases hh : (hb m 262144 && decide (pre.data.toList = [])) with
  | false =>
    rw [if_neg (by decide)]
    exact wp_skip (H _ _ (by rw [lstep, if_neg (by simpa using hh)]; exact hA1) hW)
  | true =>
    have hon : hb m 262144 = true ∧ pre.data.toList = [] := by simpa using hh
    rw [if_pos rfl]
    have hs0 := hs hon.2
    have hb := get_zero s hs0
    refine wp_seq (r_first hA1.s1 hs0 (by rw [hA1.size]; decide) ?_)
    show Code.wp _ _ _ _ _
    rw [hb]
    have hA2 := ((hA1.put 70 (.string s) (by decide)).put (70 + 1) (.int .u8 ((s.get! 0).toNat : Int)) (by decide)).put (70 + 2) (.bool (((s.get! 0).toNat : Int) == 46)) (by decide)
    have ef := eval_same ((a1.put (some 70) (.string s)).put (some (70 + 1)) (.int .u8 ((s.get! 0).toNat : Int))) (70 + 2) (.bool (((s.get! 0).toNat : Int) == 46)) (by simp only [size_put, hA1.size]; decide)
    generalize (((a1.put (some 70) (.string s)).put (some (70 + 1)) (.int .u8 ((s.get! 0).toNat : Int))).put (some (70 + 2)) (.bool (((s.get! 0).toNat : Int) == 46))) = a2 at hA2 ef
    refine wp_cond ef ?_
    by_cases hc : (s.get! 0).toNat = 46
    · rw [if_pos (by simp [hc])]
      refine r_cut1 (S := ⟨#[239, 188, 142]⟩) (by kernel_rfl) hA2.s1 (by omega) (by rw [hA2.size]; decide) fun n => ?_
      refine H _ _ ?_ (hW.drewN n)
      rw [lstep, if_pos hon, if_pos hc]
      exact ((hA2.put _ _ (by decide)).put _ _ (by decide)).set
    · rw [if_neg (by simp; omega)]
      refine wp_seq (r_dec1 (y := 75) (z := 8) enters41 (dec_call hT hW s) hA2.s1 (by rw [hA2.size]; decide) fun w' hW' => ?_)
      show Code.wp _ _ _ _ _
      have hA3 := ((((((hA2.put (75 + 1) (.string s) (by decide)).put (75 + 2) (.tuple #[.int .i32 ((Lib.decodeGo s).1 : Int), .int .i64 ((Lib.decodeGo s).2 : Int)]) (by decide)).put 75 (.tuple #[.int .i32 ((Lib.decodeGo s).1 : Int), .int .i64 ((Lib.decodeGo s).2 : Int)]) (by decide)).put (75 + 3) (.int .i32 ((Lib.decodeGo s).1 : Int)) (by decide)).put (75 + 4) (.int .i64 ((Lib.decodeGo s).2 : Int)) (by decide)).put 8 (.int .i32 ((Lib.decodeGo s).1 : Int)) (by decide)).put (8 + 1) (.int .i64 ((Lib.decodeGo s).2 : Int)) (by decide)
      have er := eval_same ((((((a2.put (some (75 + 1)) (.string s)).put (some (75 + 2)) (.tuple #[.int .i32 ((Lib.decodeGo s).1 : Int), .int .i64 ((Lib.decodeGo s).2 : Int)])).put (some 75) (.tuple #[.int .i32 ((Lib.decodeGo s).1 : Int), .int .i64 ((Lib.decodeGo s).2 : Int)])).put (some (75 + 3)) (.int .i32 ((Lib.decodeGo s).1 : Int))).put (some (75 + 4)) (.int .i64 ((Lib.decodeGo s).2 : Int)))) 8 (.int .i32 ((Lib.decodeGo s).1 : Int)) (by simp only [size_put, hA2.size]; decide)
      have er' := (eval_other ((((((a2.put (some (75 + 1)) (.string s)).put (some (75 + 2)) (.tuple #[.int .i32 ((Lib.decodeGo s).1 : Int), .int .i64 ((Lib.decodeGo s).2 : Int)])).put (some 75) (.tuple #[.int .i32 ((Lib.decodeGo s).1 : Int), .int .i64 ((Lib.decodeGo s).2 : Int)])).put (some (75 + 3)) (.int .i32 ((Lib.decodeGo s).1 : Int))).put (some (75 + 4)) (.int .i64 ((Lib.decodeGo s).2 : Int))).put (some 8) (.int .i32 ((Lib.decodeGo s).1 : Int))) (8 + 1) 8 (.int .i64 ((Lib.decodeGo s).2 : Int)) (by decide)).trans er
      have el := eval_same ((((((a2.put (some (75 + 1)) (.string s)).put (some (75 + 2)) (.tuple #[.int .i32 ((Lib.decodeGo s).1 : Int), .int .i64 ((Lib.decodeGo s).2 : Int)])).put (some 75) (.tuple #[.int .i32 ((Lib.decodeGo s).1 : Int), .int .i64 ((Lib.decodeGo s).2 : Int)])).put (some (75 + 3)) (.int .i32 ((Lib.decodeGo s).1 : Int))).put (some (75 + 4)) (.int .i64 ((Lib.decodeGo s).2 : Int))).put (some 8) (.int .i32 ((Lib.decodeGo s).1 : Int))) (8 + 1) (.int .i64 ((Lib.decodeGo s).2 : Int)) (by simp only [size_put, hA2.size]; decide)
      generalize ((((((a2.put (some (75 + 1)) (.string s)).put (some (75 + 2)) (.tuple #[.int .i32 ((Lib.decodeGo s).1 : Int), .int .i64 ((Lib.decodeGo s).2 : Int)])).put (some 75) (.tuple #[.int .i32 ((Lib.decodeGo s).1 : Int), .int .i64 ((Lib.decodeGo s).2 : Int)])).put (some (75 + 3)) (.int .i32 ((Lib.decodeGo s).1 : Int))).put (some (75 + 4)) (.int .i64 ((Lib.decodeGo s).2 : Int))).put (some 8) (.int .i32 ((Lib.decodeGo s).1 : Int))).put (some (8 + 1)) (.int .i64 ((Lib.decodeGo s).2 : Int)) = a3 at hA3 er' el
      clear er
      refine wp_seq (r_isr er' (by rw [hA3.size]; decide) ?_)
      show Code.wp _ _ _ _ _
      have hA4 := (hA3.put 80 (.int .i32 ((Lib.decodeGo s).1 : Int)) (by decide)).put (80 + 1) (.bool (((Lib.decodeGo s).1 : Int) == 65294)) (by decide)
      have et := eval_same (a3.put (some 80) (.int .i32 ((Lib.decodeGo s).1 : Int))) (80 + 1) (.bool (((Lib.decodeGo s).1 : Int) == 65294)) (by simp only [size_put, hA3.size]; decide)
      have el2 : ((a3.put (some 80) (.int .i32 ((Lib.decodeGo s).1 : Int))).put (some (80 + 1)) (.bool (((Lib.decodeGo s).1 : Int) == 65294))).eval (.tmp (8 + 1)) = .int .i64 ((Lib.decodeGo s).2 : Int) := by
        rw [eval_other _ _ _ _ (by decide), eval_other _ _ _ _ (by decide)]; exact el
      generalize ((a3.put (some 80) (.int .i32 ((Lib.decodeGo s).1 : Int))).put (some (80 + 1)) (.bool (((Lib.decodeGo s).1 : Int) == 65294))) = a4 at hA4 et el2
      refine wp_cond et ?_
      by_cases hr : (Lib.decodeGo s).1 = 65294
      · rw [if_pos (by simp [hr])]
        refine r_cutl (S := ⟨#[226, 128, 155, 239, 188, 142]⟩) (by kernel_rfl) hA4.s1 el2 (go_fit s hs0) (by rw [hA4.size]; decide) fun n => ?_
        refine H _ _ ?_ (hW'.drewN n)
        rw [lstep, if_pos hon, if_neg hc, if_pos hr]
        exact (((hA4.put _ _ (by decide)).put _ _ (by decide)).put _ _ (by decide)).set
      · rw [if_neg (by simp; omega)]
        exact wp_skip (H _ _ (by rw [lstep, if_pos hon, if_neg hc, if_neg hr]; exact hA4) hW')
set_option maxRecDepth 100000 in
set_option maxHeartbeats 1000000 in
theorem lead3 {Q : Exit → Act → World → Prop} {a : Act} {w0 w : World} {m : Int} {s pre : ByteArray} (hT : Lib.Utf8Tabs 0 1 w0) (hA : HC s pre ⟨w0.heap.size, 0, none⟩ a) (hW : WB w0 m w) (hs : pre.data.toList = [] → 0 < s.size)
    (H : ∀ a' w', HC (lstep m 524288 126 65374 [239, 189, 158] (pre, s)).2 (lstep m 524288 126 65374 [239, 189, 158] (pre, s)).1 ⟨w0.heap.size, 0, none⟩ a' → WB w0 m w' → Q .normal a' w') :
    (piece [1, 1, 1, 1, 1, 1, 1, 0] (Tryd.f29.body.getD .skip)).wp Tryd.prog Q a w := by
  conv => arg 2; whnf
  refine wp_seq (r_hasg hA.s2 hW.cell hA.s5 (by rw [hA.size]; decide) fun a1 k1 z1 d1 ec => ?_)
  show Code.wp _ _ _ _ _
  have hA1 : HC s pre ⟨w0.heap.size, 0, none⟩ a1 := ⟨z1.trans hA.size, (k1 _ (by decide)).trans hA.s1, (k1 _ (by decide)).trans hA.s2, (k1 _ (by decide)).trans hA.s5, d1.trans hA.defers⟩
  refine wp_cond ec ?_
  cases hh : (hb m 524288 && decide (pre.data.toList = [])) with
  | false =>
    rw [if_neg (by decide)]
    exact wp_skip (H _ _ (by rw [lstep, if_neg (by simpa using hh)]; exact hA1) hW)
  | true =>
    have hon : hb m 524288 = true ∧ pre.data.toList = [] := by simpa using hh
    rw [if_pos rfl]
    have hs0 := hs hon.2
    have hb := get_zero s hs0
    refine wp_seq (r_first hA1.s1 hs0 (by rw [hA1.size]; decide) ?_)
    show Code.wp _ _ _ _ _
    rw [hb]
    have hA2 := ((hA1.put 91 (.string s) (by decide)).put (91 + 1) (.int .u8 ((s.get! 0).toNat : Int)) (by decide)).put (91 + 2) (.bool (((s.get! 0).toNat : Int) == 126)) (by decide)
    have ef := eval_same ((a1.put (some 91) (.string s)).put (some (91 + 1)) (.int .u8 ((s.get! 0).toNat : Int))) (91 + 2) (.bool (((s.get! 0).toNat : Int) == 126)) (by simp only [size_put, hA1.size]; decide)
    generalize (((a1.put (some 91) (.string s)).put (some (91 + 1)) (.int .u8 ((s.get! 0).toNat : Int))).put (some (91 + 2)) (.bool (((s.get! 0).toNat : Int) == 126))) = a2 at hA2 ef
    refine wp_cond ef ?_
    by_cases hc : (s.get! 0).toNat = 126
    · rw [if_pos (by simp [hc])]
      refine r_cut1 (S := ⟨#[239, 189, 158]⟩) (by kernel_rfl) hA2.s1 (by omega) (by rw [hA2.size]; decide) fun n => ?_
      refine H _ _ ?_ (hW.drewN n)
      rw [lstep, if_pos hon, if_pos hc]
      exact ((hA2.put _ _ (by decide)).put _ _ (by decide)).set
    · rw [if_neg (by simp; omega)]
      refine wp_seq (r_dec1 (y := 96) (z := 10) enters41 (dec_call hT hW s) hA2.s1 (by rw [hA2.size]; decide) fun w' hW' => ?_)
      show Code.wp _ _ _ _ _
      have hA3 := ((((((hA2.put (96 + 1) (.string s) (by decide)).put (96 + 2) (.tuple #[.int .i32 ((Lib.decodeGo s).1 : Int), .int .i64 ((Lib.decodeGo s).2 : Int)]) (by decide)).put 96 (.tuple #[.int .i32 ((Lib.decodeGo s).1 : Int), .int .i64 ((Lib.decodeGo s).2 : Int)]) (by decide)).put (96 + 3) (.int .i32 ((Lib.decodeGo s).1 : Int)) (by decide)).put (96 + 4) (.int .i64 ((Lib.decodeGo s).2 : Int)) (by decide)).put 10 (.int .i32 ((Lib.decodeGo s).1 : Int)) (by decide)).put (10 + 1) (.int .i64 ((Lib.decodeGo s).2 : Int)) (by decide)
      have er := eval_same ((((((a2.put (some (96 + 1)) (.string s)).put (some (96 + 2)) (.tuple #[.int .i32 ((Lib.decodeGo s).1 : Int), .int .i64 ((Lib.decodeGo s).2 : Int)])).put (some 96) (.tuple #[.int .i32 ((Lib.decodeGo s).1 : Int), .int .i64 ((Lib.decodeGo s).2 : Int)])).put (some (96 + 3)) (.int .i32 ((Lib.decodeGo s).1 : Int))).put (some (96 + 4)) (.int .i64 ((Lib.decodeGo s).2 : Int)))) 10 (.int .i32 ((Lib.decodeGo s).1 : Int)) (by simp only [size_put, hA2.size]; decide)
      have er' := (eval_other ((((((a2.put (some (96 + 1)) (.string s)).put (some (96 + 2)) (.tuple #[.int .i32 ((Lib.decodeGo s).1 : Int), .int .i64 ((Lib.decodeGo s).2 : Int)])).put (some 96) (.tuple #[.int .i32 ((Lib.decodeGo s).1 : Int), .int .i64 ((Lib.decodeGo s).2 : Int)])).put (some (96 + 3)) (.int .i32 ((Lib.decodeGo s).1 : Int))).put (some (96 + 4)) (.int .i64 ((Lib.decodeGo s).2 : Int))).put (some 10) (.int .i32 ((Lib.decodeGo s).1 : Int))) (10 + 1) 10 (.int .i64 ((Lib.decodeGo s).2 : Int)) (by decide)).trans er
      have el := eval_same ((((((a2.put (some (96 + 1)) (.string s)).put (some (96 + 2)) (.tuple #[.int .i32 ((Lib.decodeGo s).1 : Int), .int .i64 ((Lib.decodeGo s).2 : Int)])).put (some 96) (.tuple #[.int .i32 ((Lib.decodeGo s).1 : Int), .int .i64 ((Lib.decodeGo s).2 : Int)])).put (some (96 + 3)) (.int .i32 ((Lib.decodeGo s).1 : Int))).put (some (96 + 4)) (.int .i64 ((Lib.decodeGo s).2 : Int))).put (some 10) (.int .i32 ((Lib.decodeGo s).1 : Int))) (10 + 1) (.int .i64 ((Lib.decodeGo s).2 : Int)) (by simp only [size_put, hA2.size]; decide)
      generalize ((((((a2.put (some (96 + 1)) (.string s)).put (some (96 + 2)) (.tuple #[.int .i32 ((Lib.decodeGo s).1 : Int), .int .i64 ((Lib.decodeGo s).2 : Int)])).put (some 96) (.tuple #[.int .i32 ((Lib.decodeGo s).1 : Int), .int .i64 ((Lib.decodeGo s).2 : Int)])).put (some (96 + 3)) (.int .i32 ((Lib.decodeGo s).1 : Int))).put (some (96 + 4)) (.int .i64 ((Lib.decodeGo s).2 : Int))).put (some 10) (.int .i32 ((Lib.decodeGo s).1 : Int))).put (some (10 + 1)) (.int .i64 ((Lib.decodeGo s).2 : Int)) = a3 at hA3 er' el
      clear er
      refine wp_seq (r_isr er' (by rw [hA3.size]; decide) ?_)
      show Code.wp _ _ _ _ _
      have hA4 := (hA3.put 101 (.int .i32 ((Lib.decodeGo s).1 : Int)) (by decide)).put (101 + 1) (.bool (((Lib.decodeGo s).1 : Int) == 65374)) (by decide)
      have et := eval_same (a3.put (some 101) (.int .i32 ((Lib.decodeGo s).1 : Int))) (101 + 1) (.bool (((Lib.decodeGo s).1 : Int) == 65374)) (by simp only [size_put, hA3.size]; decide)
      have el2 : ((a3.put (some 101) (.int .i32 ((Lib.decodeGo s).1 : Int))).put (some (101 + 1)) (.bool (((Lib.decodeGo s).1 : Int) == 65374))).eval (.tmp (10 + 1)) = .int .i64 ((Lib.decodeGo s).2 : Int) := by
        rw [eval_other _ _ _ _ (by decide), eval_other _ _ _ _ (by decide)]; exact el
      generalize ((a3.put (some 101) (.int .i32 ((Lib.decodeGo s).1 : Int))).put (some (101 + 1)) (.bool (((Lib.decodeGo s).1 : Int) == 65374))) = a4 at hA4 et el2
      refine wp_cond et ?_
      by_cases hr : (Lib.decodeGo s).1 = 65374
      · rw [if_pos (by simp [hr])]
        refine r_cutl (S := ⟨#[226, 128, 155, 239, 189, 158]⟩) (by kernel_rfl) hA4.s1 el2 (go_fit s hs0) (by rw [hA4.size]; decide) fun n => ?_
        refine H _ _ ?_ (hW'.drewN n)
        rw [lstep, if_pos hon, if_neg hc, if_pos hr]
        exact (((hA4.put _ _ (by decide)).put _ _ (by decide)).put _ _ (by decide)).set
      · rw [if_neg (by simp; omega)]
        exact wp_skip (H _ _ (by rw [lstep, if_pos hon, if_neg hc, if_neg hr]; exact hA4) hW')
end Go.Proofs.YtlgoghonnnobfaaDoor.Enc
namespace Go.Proofs.YtlgoghonnnobfaaDoor.Enc
open Go Go.RowKit Go.Proofs.YtlgoghonnnobfaaDoor.Fr
set_option linter.unusedVariables false
set_option linter.unusedSimpArgs false
/-! ### control characters at the head -/
section
variable {Q : Exit → Act → World → Prop} {a : Act} {w : World} {lo hi : Nat} {r : Int}
theorem r_eq8 {id x s t : Nat} {r c : Int} {p1 p2 : String} (hs : s < a.tmps.size) (hx : a.eval (.tmp x) = .int .u8 r)
    (h : Q .normal ((a.put (some s) (.bool (r == c))).put (some t) (.bool (r == c))) w) :
    (Code.region id #[{ dst := some s, op := .binOp .eql 5 (.tmp x) (.const (.int .u8 c)) 5, type := 4, pos := p1, after := #[], guard := none }, { dst := some t, op := .assign (.tmp s), type := 4, pos := p2, after := #[{ on := 0, ground := .data }], guard := none }] false).wp Tryd.prog Q a w := by
  refine wp_region_lit ?_
  refine eqlInt Tryd.underlying5 hx rfl ?_
  refine assign ?_
  rw [eval_same _ _ _ hs]
  exact h
theorem r_or48 {id x s t : Nat} {c1 c2 c3 c4 : Int} {p0 p1 p2 p3 p4 p5 p6 p7 : String} (hd : x < s ∧ x < t ∧ t < s) (hi1 : lo ≤ t ∧ s + 3 ≤ hi ∧ hi < a.tmps.size) (hx : a.eval (.tmp x) = .int .u8 r)
    (h : ∀ a', Same lo hi a a' → a'.eval (.tmp t) = .bool (r == c1 || r == c2 || r == c3 || r == c4) → Q .normal a' w) :
    ((Code.region (id) #[{ dst := some (s), op := .binOp .eql 5 (.tmp (x)) (.const (.int .u8 c1)) 5, type := 4, pos := p0, after := #[], guard := none }, { dst := some (t), op := .assign (.tmp (s)), type := 4, pos := p1, after := #[{ on := 0, ground := .data }], guard := none }] false).seq (Code.cond (.tmp t) Code.skip ((Code.region (id + 1) #[{ dst := some (s + 1), op := .binOp .eql 5 (.tmp (x)) (.const (.int .u8 c2)) 5, type := 4, pos := p2, after := #[], guard := none }, { dst := some (t), op := .assign (.tmp (s + 1)), type := 4, pos := p3, after := #[{ on := 0, ground := .data }], guard := none }] false).seq (Code.cond (.tmp t) Code.skip ((Code.region (id + 2) #[{ dst := some (s + 2), op := .binOp .eql 5 (.tmp (x)) (.const (.int .u8 c3)) 5, type := 4, pos := p4, after := #[], guard := none }, { dst := some (t), op := .assign (.tmp (s + 2)), type := 4, pos := p5, after := #[{ on := 0, ground := .data }], guard := none }] false).seq (Code.cond (.tmp t) Code.skip (Code.region (id + 3) #[{ dst := some (s + 3), op := .binOp .eql 5 (.tmp (x)) (.const (.int .u8 c4)) 5, type := 4, pos := p6, after := #[], guard := none }, { dst := some (t), op := .assign (.tmp (s + 3)), type := 4, pos := p7, after := #[{ on := 0, ground := .data }], guard := none }] false))))))).wp Tryd.prog Q a w := by
  have one : ∀ (b : Act) (u : Nat) (c : Int), Same lo hi a b → s ≤ u → u ≤ s + 3 → b.eval (.tmp x) = .int .u8 r →
      Same lo hi a ((b.put (some u) (.bool (r == c))).put (some t) (.bool (r == c))) ∧ ((b.put (some u) (.bool (r == c))).put (some t) (.bool (r == c))).eval (.tmp x) = .int .u8 r ∧ ((b.put (some u) (.bool (r == c))).put (some t) (.bool (r == c))).eval (.tmp t) = .bool (r == c) := by
    intro b u c hb h1 h2 hxb
    refine ⟨(hb.put _ _ (by omega) (by omega)).put _ _ (by omega) (by omega), ?_, eval_same _ _ _ (by rw [size_put, hb.size]; omega)⟩
    rw [eval_other _ _ _ _ (by omega), eval_other _ _ _ _ (by omega)]; exact hxb
  obtain ⟨i1, i2, i3⟩ := one a s c1 (Same.refl a) (by omega) (by omega) hx
  refine wp_seq (r_eq8 (by omega) hx ?_)
  show Code.wp _ _ _ _ _
  generalize (a.put (some s) (.bool (r == c1))).put (some t) (.bool (r == c1)) = a1 at i1 i2 i3
  refine wp_cond i3 ?_
  by_cases k1 : r = c1
  · rw [if_pos (by simpa using k1)]; exact wp_skip (h _ i1 (by rw [i3]; simp [k1]))
  rw [if_neg (by simpa using k1)]
  obtain ⟨j1, j2, j3⟩ := one a1 (s + 1) c2 i1 (by omega) (by omega) i2
  refine wp_seq (r_eq8 (by rw [i1.size]; omega) i2 ?_)
  show Code.wp _ _ _ _ _
  generalize (a1.put (some (s + 1)) (.bool (r == c2))).put (some t) (.bool (r == c2)) = a2 at j1 j2 j3
  refine wp_cond j3 ?_
  by_cases k2 : r = c2
  · rw [if_pos (by simpa using k2)]; exact wp_skip (h _ j1 (by rw [j3]; simp [k2]))
  rw [if_neg (by simpa using k2)]
  obtain ⟨l1, l2, l3⟩ := one a2 (s + 2) c3 j1 (by omega) (by omega) j2
  refine wp_seq (r_eq8 (by rw [j1.size]; omega) j2 ?_)
  show Code.wp _ _ _ _ _
  generalize (a2.put (some (s + 2)) (.bool (r == c3))).put (some t) (.bool (r == c3)) = a3 at l1 l2 l3
  refine wp_cond l3 ?_
  by_cases k3 : r = c3
  · rw [if_pos (by simpa using k3)]; exact wp_skip (h _ l1 (by rw [l3]; simp [k3]))
  rw [if_neg (by simpa using k3)]
  obtain ⟨n1, n2, n3⟩ := one a3 (s + 3) c4 l1 (by omega) (by omega) l2
  refine r_eq8 (by rw [l1.size]; omega) l2 ?_
  exact h _ n1 (by rw [n3]; simp [k1, k2, k3])

theorem run_conv {P : Program} {x : Operand} {d : Option Tmp} {t t2 ty : TypeId} {pos : String} {aft : Array Edge} {g : Option (Nat × Bool)} {u v : Value} (hx : a.eval x = u) (hr : (convert t t2 u).run P w = .ok v w) :
    (execOp a.eval { dst := d, op := .convert t t2 x, type := ty, pos := pos, after := aft, guard := g }).run P w = .ok (.value v) w := by
  simp only [execOp, hx]
  simp [hr]
theorem run_adds {P : Program} {x y : Operand} {d : Option Tmp} {t t2 ty : TypeId} {pos : String} {aft : Array Edge} {g : Option (Nat × Bool)} {u v : ByteArray} (ht : P.underlying t = some .string) (hx : a.eval x = .string u) (hy : a.eval y = .string v) (hs : u.size + v.size ≤ 9223372036854775807) :
    (execOp a.eval { dst := d, op := .binOp .add t x y t2, type := ty, pos := pos, after := aft, guard := g }).run P w = .ok (.value (.string (u ++ v))) w := by
  simp only [execOp, hx, hy]
  simp [go_sem, run_underlying ht, ht, run_string_add_sum w u v hs]
theorem r_firsta {s : ByteArray} {id x z : Nat} {p0 p1 p2 : String} {f0 f1 f2 : Array Edge} (h1 : a.eval (.tmp 1) = .string s) (hs : 0 < s.size) (hx : x + 1 < a.tmps.size)
    (H : Q .normal (((a.put (some x) (.string s)).put (some (x + 1)) (.int .u8 ((s.get! 0).toNat : Int))).put (some z) (.int .u8 ((s.get! 0).toNat : Int))) w) :
    (Code.region id #[{ dst := some (x), op := .move (.tmp 1), type := 9, pos := p0, after := f0, guard := none }, { dst := some (x + 1), op := .index 9 (.tmp x) (.const (.int .i64 0)), type := 5, pos := p1, after := f1, guard := none }, { dst := some (z), op := .assign (.tmp (x + 1)), type := 5, pos := p2, after := f2, guard := none }] false).wp Tryd.prog Q a w := by
  refine wp_region_lit ?_
  refine Fr.move ?_
  rw [h1]
  refine Fr.step rfl (run_index (s := s) (i := 0) Tryd.underlying9 (eval_same _ _ _ (by omega)) rfl hs) ?_
  refine assign ?_
  rw [eval_same _ _ _ (by rw [size_put]; omega), get_zero s hs]
  exact wpList_nil H
theorem r_ctl4 {s S : ByteArray} {id x z l : Nat} {c : Int} {p0 p1 p2 p3 p4 p5 p6 p7 : String} {f0 f1 f2 f3 f4 f5 f6 f7 : Array Edge} (hB : Region.lexB .any ([{ dst := some (x), op := .move (.tmp z), type := 5, pos := p0, after := f0, guard := none }, { dst := some (x + 1), op := .convert 5 21 (.tmp x), type := 21, pos := p1, after := f1, guard := none }, { dst := some (x + 2), op := .binOp .add 21 (.const (.int .i32 9216)) (.tmp (x + 1)) 21, type := 21, pos := p2, after := f2, guard := none }, { dst := some (x + 3), op := .convert 21 9 (.tmp (x + 2)), type := 9, pos := p3, after := f3, guard := none }, { dst := some (x + 4), op := .move (.tmp 1), type := 9, pos := p4, after := f4, guard := none }, { dst := some (x + 5), op := .slice 9 (.tmp (x + 4)) (some (.const (.int .i64 1))) none none, type := 9, pos := p5, after := f5, guard := none }, { dst := some (5), op := .assign (.tmp (x + 3)), type := 9, pos := p6, after := f6, guard := none }, { dst := some (1), op := .assign (.tmp (x + 5)), type := 9, pos := p7, after := f7, guard := none }] : List Oper).toArray = true) (h1 : a.eval (.tmp 1) = .string s) (hz : a.eval (.tmp z) = .int .u8 c) (hc1 : ∀ w, (convert 5 21 (.int .u8 c)).run Tryd.prog w = .ok (.int .i32 c) w) (hw : IntKind.i32.wrap (9216 + c) = 9216 + c) (hc2 : ∀ w, (convert 21 9 (.int .i32 (9216 + c))).run Tryd.prog w = .ok (.string S) w) (hs : 1 ≤ s.size) (hx : 5 < x ∧ x + 5 < a.tmps.size)
    (H : ∀ n, Q .normal ((((((((a.put (some x) (.int .u8 c)).put (some (x + 1)) (.int .i32 c)).put (some (x + 2)) (.int .i32 (9216 + c))).put (some (x + 3)) (.string S)).put (some (x + 4)) (.string s)).put (some (x + 5)) (.string (s.extract 1 s.size))).put (some 5) (.string S)).put (some 1) (.string (s.extract 1 s.size))) (w.drewN n)) :
    (Code.region id #[{ dst := some (x), op := .move (.tmp z), type := 5, pos := p0, after := f0, guard := none }, { dst := some (x + 1), op := .convert 5 21 (.tmp x), type := 21, pos := p1, after := f1, guard := none }, { dst := some (x + 2), op := .binOp .add 21 (.const (.int .i32 9216)) (.tmp (x + 1)) 21, type := 21, pos := p2, after := f2, guard := none }, { dst := some (x + 3), op := .convert 21 9 (.tmp (x + 2)), type := 9, pos := p3, after := f3, guard := none }, { dst := some (x + 4), op := .move (.tmp 1), type := 9, pos := p4, after := f4, guard := none }, { dst := some (x + 5), op := .slice 9 (.tmp (x + 4)) (some (.const (.int .i64 1))) none none, type := 9, pos := p5, after := f5, guard := none }, { dst := some (5), op := .assign (.tmp (x + 3)), type := 9, pos := p6, after := f6, guard := none }, { dst := some (1), op := .assign (.tmp (x + 5)), type := 9, pos := p7, after := f7, guard := none }] true).wp Tryd.prog Q a w := by
  refine wp_region_quiet_lit mixed hB ?_
  refine qstep rfl (fun _ => rfl) ?_
  rw [hz]
  refine qstep rfl (fun w => run_conv (eval_same _ _ _ (by first | omega | (simp only [size_put]; omega))) (hc1 w)) ?_
  refine qstep rfl (fun w => run_addi (m := 9216) (n := c) Tryd.underlying21 rfl (eval_same _ _ _ (by first | omega | (simp only [size_put]; omega)))) ?_
  rw [hw]
  refine qstep rfl (fun w => run_conv (eval_same _ _ _ (by first | omega | (simp only [size_put]; omega))) (hc2 w)) ?_
  refine qstep rfl (fun _ => rfl) ?_
  rw [show (((((a.put (some x) (.int .u8 c)).put (some (x + 1)) (.int .i32 c)).put (some (x + 2)) (.int .i32 (9216 + c))).put (some (x + 3)) (.string S))).eval (.tmp 1) = .string s from by rw [eval_other _ _ _ _ (by omega), eval_other _ _ _ _ (by omega), eval_other _ _ _ _ (by omega), eval_other _ _ _ _ (by omega)]; exact h1]
  refine qstep rfl (fun w => run_from (s := s) (i := 1) Tryd.underlying9 (eval_same _ _ _ (by first | omega | (simp only [size_put]; omega))) rfl hs) ?_
  refine qstep rfl (fun _ => rfl) ?_
  rw [show (((((((a.put (some x) (.int .u8 c)).put (some (x + 1)) (.int .i32 c)).put (some (x + 2)) (.int .i32 (9216 + c))).put (some (x + 3)) (.string S)).put (some (x + 4)) (.string s)).put (some (x + 5)) (.string (s.extract 1 s.size)))).eval (.tmp (x + 3)) = .string S from by rw [eval_other _ _ _ _ (by omega), eval_other _ _ _ _ (by omega)]; exact (eval_same _ _ _ (by first | omega | (simp only [size_put]; omega)))]
  refine qstep rfl (fun _ => rfl) ?_
  rw [show ((((((((a.put (some x) (.int .u8 c)).put (some (x + 1)) (.int .i32 c)).put (some (x + 2)) (.int .i32 (9216 + c))).put (some (x + 3)) (.string S)).put (some (x + 4)) (.string s)).put (some (x + 5)) (.string (s.extract 1 s.size))).put (some 5) (.string S))).eval (.tmp (x + 5)) = .string (s.extract 1 s.size) from by rw [eval_other _ _ _ _ (by omega)]; exact (eval_same _ _ _ (by first | omega | (simp only [size_put]; omega)))]
  refine wpQuiet_nil ?_
  rintro w' ⟨n, rfl⟩
  exact H n
theorem r_sgn4 {s S : ByteArray} {id x z l : Nat} {c : Int} {p0 p1 p2 p3 p4 p5 p6 p7 : String} {f0 f1 f2 f3 f4 f5 f6 f7 : Array Edge} (hB : Region.lexB .any ([{ dst := some (x), op := .move (.tmp z), type := 21, pos := p0, after := f0, guard := none }, { dst := some (x + 1), op := .convert 21 9 (.tmp x), type := 9, pos := p1, after := f1, guard := none }, { dst := some (x + 2), op := .binOp .add 9 (.const (.string ⟨#[226, 128, 155]⟩)) (.tmp (x + 1)) 9, type := 9, pos := p2, after := f2, guard := none }, { dst := some (x + 3), op := .move (.tmp 1), type := 9, pos := p3, after := f3, guard := none }, { dst := some (x + 4), op := .move (.tmp (z + 1)), type := 3, pos := p4, after := f4, guard := none }, { dst := some (x + 5), op := .slice 9 (.tmp (x + 3)) (some (.tmp (x + 4))) none none, type := 9, pos := p5, after := f5, guard := none }, { dst := some (5), op := .assign (.tmp (x + 2)), type := 9, pos := p6, after := f6, guard := none }, { dst := some (1), op := .assign (.tmp (x + 5)), type := 9, pos := p7, after := f7, guard := none }] : List Oper).toArray = true) (h1 : a.eval (.tmp 1) = .string s) (hz : a.eval (.tmp z) = .int .i32 c) (hz2 : a.eval (.tmp (z + 1)) = .int .i64 (l : Int)) (hc2 : ∀ w, (convert 21 9 (.int .i32 c)).run Tryd.prog w = .ok (.string S) w) (hS : S.size ≤ 1000) (hs : l ≤ s.size) (hx : 5 < x ∧ x + 5 < a.tmps.size ∧ z + 1 < x)
    (H : ∀ n, Q .normal ((((((((a.put (some x) (.int .i32 c)).put (some (x + 1)) (.string S)).put (some (x + 2)) (.string (⟨#[226, 128, 155]⟩ ++ S))).put (some (x + 3)) (.string s)).put (some (x + 4)) (.int .i64 (l : Int))).put (some (x + 5)) (.string (s.extract l s.size))).put (some 5) (.string (⟨#[226, 128, 155]⟩ ++ S))).put (some 1) (.string (s.extract l s.size))) (w.drewN n)) :
    (Code.region id #[{ dst := some (x), op := .move (.tmp z), type := 21, pos := p0, after := f0, guard := none }, { dst := some (x + 1), op := .convert 21 9 (.tmp x), type := 9, pos := p1, after := f1, guard := none }, { dst := some (x + 2), op := .binOp .add 9 (.const (.string ⟨#[226, 128, 155]⟩)) (.tmp (x + 1)) 9, type := 9, pos := p2, after := f2, guard := none }, { dst := some (x + 3), op := .move (.tmp 1), type := 9, pos := p3, after := f3, guard := none }, { dst := some (x + 4), op := .move (.tmp (z + 1)), type := 3, pos := p4, after := f4, guard := none }, { dst := some (x + 5), op := .slice 9 (.tmp (x + 3)) (some (.tmp (x + 4))) none none, type := 9, pos := p5, after := f5, guard := none }, { dst := some (5), op := .assign (.tmp (x + 2)), type := 9, pos := p6, after := f6, guard := none }, { dst := some (1), op := .assign (.tmp (x + 5)), type := 9, pos := p7, after := f7, guard := none }] true).wp Tryd.prog Q a w := by
  refine wp_region_quiet_lit mixed hB ?_
  refine qstep rfl (fun _ => rfl) ?_
  rw [hz]
  refine qstep rfl (fun w => run_conv (eval_same _ _ _ (by first | omega | (simp only [size_put]; omega))) (hc2 w)) ?_
  refine qstep rfl (fun w => run_adds (u := ⟨#[226, 128, 155]⟩) (v := S) Tryd.underlying9 rfl (eval_same _ _ _ (by first | omega | (simp only [size_put]; omega))) (by have : (⟨#[226, 128, 155]⟩ : ByteArray).size = 3 := rfl; omega)) ?_
  refine qstep rfl (fun _ => rfl) ?_
  rw [show ((((a.put (some x) (.int .i32 c)).put (some (x + 1)) (.string S)).put (some (x + 2)) (.string (⟨#[226, 128, 155]⟩ ++ S)))).eval (.tmp 1) = .string s from by rw [eval_other _ _ _ _ (by omega), eval_other _ _ _ _ (by omega), eval_other _ _ _ _ (by omega)]; exact h1]
  refine qstep rfl (fun _ => rfl) ?_
  rw [show (((((a.put (some x) (.int .i32 c)).put (some (x + 1)) (.string S)).put (some (x + 2)) (.string (⟨#[226, 128, 155]⟩ ++ S))).put (some (x + 3)) (.string s))).eval (.tmp (z + 1)) = .int .i64 (l : Int) from by rw [eval_other _ _ _ _ (by omega), eval_other _ _ _ _ (by omega), eval_other _ _ _ _ (by omega), eval_other _ _ _ _ (by omega)]; exact hz2]
  refine qstep rfl (fun w => run_from (s := s) (i := l) Tryd.underlying9 (by rw [eval_other _ _ _ _ (by omega)]; exact eval_same _ _ _ (by first | omega | (simp only [size_put]; omega))) (eval_same _ _ _ (by first | omega | (simp only [size_put]; omega))) hs) ?_
  refine qstep rfl (fun _ => rfl) ?_
  rw [show (((((((a.put (some x) (.int .i32 c)).put (some (x + 1)) (.string S)).put (some (x + 2)) (.string (⟨#[226, 128, 155]⟩ ++ S))).put (some (x + 3)) (.string s)).put (some (x + 4)) (.int .i64 (l : Int))).put (some (x + 5)) (.string (s.extract l s.size)))).eval (.tmp (x + 2)) = .string (⟨#[226, 128, 155]⟩ ++ S) from by rw [eval_other _ _ _ _ (by omega), eval_other _ _ _ _ (by omega), eval_other _ _ _ _ (by omega)]; exact (eval_same _ _ _ (by first | omega | (simp only [size_put]; omega)))]
  refine qstep rfl (fun _ => rfl) ?_
  rw [show ((((((((a.put (some x) (.int .i32 c)).put (some (x + 1)) (.string S)).put (some (x + 2)) (.string (⟨#[226, 128, 155]⟩ ++ S))).put (some (x + 3)) (.string s)).put (some (x + 4)) (.int .i64 (l : Int))).put (some (x + 5)) (.string (s.extract l s.size))).put (some 5) (.string (⟨#[226, 128, 155]⟩ ++ S)))).eval (.tmp (x + 5)) = .string (s.extract l s.size) from by rw [eval_other _ _ _ _ (by omega)]; exact (eval_same _ _ _ (by first | omega | (simp only [size_put]; omega)))]
  refine wpQuiet_nil ?_
  rintro w' ⟨n, rfl⟩
  exact H n
end
end Go.Proofs.YtlgoghonnnobfaaDoor.Enc
namespace Go.Proofs.YtlgoghonnnobfaaDoor.Enc
open Go Go.RowKit Go.Proofs.YtlgoghonnnobfaaDoor.Fr
set_option linter.unusedVariables false
set_option linter.unusedSimpArgs false
def isCtl (c : Nat) : Bool := c == 9 || c == 10 || c == 11 || c == 13
/-- The picture of a control character. -/
def sgn (c : Nat) : ByteArray := ⟨#[226, 144, UInt8.ofNat (128 + c)]⟩
def lstep4 (m : Int) (p : ByteArray × ByteArray) : ByteArray × ByteArray :=
  if hb m 1048576 = true ∧ p.1.data.toList = [] then
    (if isCtl (p.2.get! 0).toNat = true then (sgn (p.2.get! 0).toNat, p.2.extract 1 p.2.size)
     else if 9216 ≤ (Lib.decodeGo p.2).1 ∧ isCtl ((Lib.decodeGo p.2).1 - 9216) = true then (⟨#[226, 128, 155]⟩ ++ sgn ((Lib.decodeGo p.2).1 - 9216), p.2.extract (Lib.decodeGo p.2).2 p.2.size) else p)
  else p
theorem ctl_cases {c : Nat} (h : isCtl c = true) : c = 9 ∨ c = 10 ∨ c = 11 ∨ c = 13 := by
  simp only [isCtl, Bool.or_eq_true, beq_iff_eq] at h; omega
theorem ctl_conv {c : Nat} (h : isCtl c = true) : (∀ w, (convert 5 21 (.int .u8 (c : Int))).run Tryd.prog w = .ok (.int .i32 (c : Int)) w) ∧ IntKind.i32.wrap (9216 + (c : Int)) = 9216 + (c : Int) ∧ (∀ w, (convert 21 9 (.int .i32 (9216 + (c : Int)))).run Tryd.prog w = .ok (.string (sgn c)) w) ∧ (sgn c).size ≤ 1000 := by
  rcases ctl_cases h with rfl | rfl | rfl | rfl
  all_goals exact ⟨fun w => by kernel_rfl, by decide, fun w => by kernel_rfl, by decide⟩
theorem ctl_byte (c : Nat) : ((c : Int) == 9 || (c : Int) == 10 || (c : Int) == 11 || (c : Int) == 13) = isCtl c := by
  rw [Bool.eq_iff_iff]; simp [isCtl]; omega
theorem ctl_rune (r : Nat) : ((r : Int) == 9225 || (r : Int) == 9226 || (r : Int) == 9227 || (r : Int) == 9229) = (decide (9216 ≤ r) && isCtl (r - 9216)) := by
  rw [Bool.eq_iff_iff]; simp [isCtl]; omega
set_option maxRecDepth 100000 in
set_option maxHeartbeats 1000000 in
theorem lead4 {Q : Exit → Act → World → Prop} {a : Act} {w0 w : World} {m : Int} {s pre : ByteArray} (hT : Lib.Utf8Tabs 0 1 w0) (hA : HC s pre ⟨w0.heap.size, 0, none⟩ a) (hW : WB w0 m w) (hs : pre.data.toList = [] → 0 < s.size)
    (H : ∀ a' w', HC (lstep4 m (pre, s)).2 (lstep4 m (pre, s)).1 ⟨w0.heap.size, 0, none⟩ a' → WB w0 m w' → Q .normal a' w') :
    (piece [1, 1, 1, 1, 1, 1, 1, 1, 0] (Tryd.f29.body.getD .skip)).wp Tryd.prog Q a w := by
  conv => arg 2; whnf
  refine wp_seq (r_hasg hA.s2 hW.cell hA.s5 (by rw [hA.size]; decide) fun a1 k1 z1 d1 ec => ?_)
  show Code.wp _ _ _ _ _
  have hA1 : HC s pre ⟨w0.heap.size, 0, none⟩ a1 := ⟨z1.trans hA.size, (k1 _ (by decide)).trans hA.s1, (k1 _ (by decide)).trans hA.s2, (k1 _ (by decide)).trans hA.s5, d1.trans hA.defers⟩
  refine wp_cond ec ?_
  cases hh : (hb m 1048576 && decide (pre.data.toList = [])) with
  | false =>
    rw [if_neg (by decide)]
    exact wp_skip (H _ _ (by rw [lstep4, if_neg (by simpa using hh)]; exact hA1) hW)
  | true =>
    have hon : hb m 1048576 = true ∧ pre.data.toList = [] := by simpa using hh
    rw [if_pos rfl]
    have hs0 := hs hon.2
    refine wp_seq (r_firsta hA1.s1 hs0 (by rw [hA1.size]; decide) ?_)
    show Code.wp _ _ _ _ _
    have hA2 := ((hA1.put 112 (.string s) (by decide)).put (112 + 1) (.int .u8 ((s.get! 0).toNat : Int)) (by decide)).put 12 (.int .u8 ((s.get! 0).toNat : Int)) (by decide)
    have e12 := eval_same ((a1.put (some 112) (.string s)).put (some (112 + 1)) (.int .u8 ((s.get! 0).toNat : Int))) 12 (.int .u8 ((s.get! 0).toNat : Int)) (by simp only [size_put, hA1.size]; decide)
    generalize (((a1.put (some 112) (.string s)).put (some (112 + 1)) (.int .u8 ((s.get! 0).toNat : Int))).put (some 12) (.int .u8 ((s.get! 0).toNat : Int))) = a2 at hA2 e12
    refine wp_seq (r_move ?_)
    show Code.wp _ _ _ _ _
    rw [e12]
    have hA3 := hA2.put 114 (.int .u8 ((s.get! 0).toNat : Int)) (by decide)
    have e3 := eval_same a2 114 (.int .u8 ((s.get! 0).toNat : Int)) (by rw [hA2.size]; decide)
    have e12' := (eval_other a2 114 12 (.int .u8 ((s.get! 0).toNat : Int)) (by decide)).trans e12
    generalize a2.put (some 114) (.int .u8 ((s.get! 0).toNat : Int)) = a3 at hA3 e3 e12'
    refine wp_block ?_
    refine wp_seq (r_or48 (lo := 114 + 1) (hi := 133 + 3) (by decide) (by rw [hA3.size]; decide) e3 fun a4 S4 t4 => ?_)
    show Code.wp _ _ _ _ _
    have hA4 : HC s pre ⟨w0.heap.size, 0, none⟩ a4 := ⟨S4.size.trans hA3.size, (S4.slot _ (by decide)).trans hA3.s1, (S4.slot _ (by decide)).trans hA3.s2, (S4.slot _ (by decide)).trans hA3.s5, S4.defers.trans hA3.defers⟩
    have e4 := (S4.slot 12 (by decide)).trans e12'
    rw [ctl_byte] at t4
    refine wp_cond t4 ?_
    by_cases hc : isCtl (s.get! 0).toNat = true
    · rw [if_pos hc]
      obtain ⟨v1, v2, v3, v4⟩ := ctl_conv hc
      refine r_ctl4 (l := 0) (S := sgn (s.get! 0).toNat) (by kernel_rfl) hA4.s1 e4 v1 v2 v3 (by omega) (by rw [hA4.size]; decide) fun n => ?_
      refine H _ _ ?_ (hW.drewN n)
      rw [lstep4, if_pos hon, if_pos hc]
      exact ((((((hA4.put _ _ (by decide)).put _ _ (by decide)).put _ _ (by decide)).put _ _ (by decide)).put _ _ (by decide)).put _ _ (by decide)).set
    · rw [if_neg hc]
      refine wp_seq (r_dec1 (y := 115) (z := 13) enters41 (dec_call hT hW s) hA4.s1 (by rw [hA4.size]; decide) fun w' hW' => ?_)
      show Code.wp _ _ _ _ _
      have hA5 := ((((((hA4.put (115 + 1) (.string s) (by decide)).put (115 + 2) (.tuple #[.int .i32 ((Lib.decodeGo s).1 : Int), .int .i64 ((Lib.decodeGo s).2 : Int)]) (by decide)).put 115 (.tuple #[.int .i32 ((Lib.decodeGo s).1 : Int), .int .i64 ((Lib.decodeGo s).2 : Int)]) (by decide)).put (115 + 3) (.int .i32 ((Lib.decodeGo s).1 : Int)) (by decide)).put (115 + 4) (.int .i64 ((Lib.decodeGo s).2 : Int)) (by decide)).put 13 (.int .i32 ((Lib.decodeGo s).1 : Int)) (by decide)).put (13 + 1) (.int .i64 ((Lib.decodeGo s).2 : Int)) (by decide)
      have er' := (eval_other ((((((a4.put (some (115 + 1)) (.string s)).put (some (115 + 2)) (.tuple #[.int .i32 ((Lib.decodeGo s).1 : Int), .int .i64 ((Lib.decodeGo s).2 : Int)])).put (some 115) (.tuple #[.int .i32 ((Lib.decodeGo s).1 : Int), .int .i64 ((Lib.decodeGo s).2 : Int)])).put (some (115 + 3)) (.int .i32 ((Lib.decodeGo s).1 : Int))).put (some (115 + 4)) (.int .i64 ((Lib.decodeGo s).2 : Int))).put (some 13) (.int .i32 ((Lib.decodeGo s).1 : Int))) (13 + 1) 13 (.int .i64 ((Lib.decodeGo s).2 : Int)) (by decide)).trans (eval_same (((((a4.put (some (115 + 1)) (.string s)).put (some (115 + 2)) (.tuple #[.int .i32 ((Lib.decodeGo s).1 : Int), .int .i64 ((Lib.decodeGo s).2 : Int)])).put (some 115) (.tuple #[.int .i32 ((Lib.decodeGo s).1 : Int), .int .i64 ((Lib.decodeGo s).2 : Int)])).put (some (115 + 3)) (.int .i32 ((Lib.decodeGo s).1 : Int))).put (some (115 + 4)) (.int .i64 ((Lib.decodeGo s).2 : Int))) 13 (.int .i32 ((Lib.decodeGo s).1 : Int)) (by simp only [size_put, hA4.size]; decide))
      have el := eval_same ((((((a4.put (some (115 + 1)) (.string s)).put (some (115 + 2)) (.tuple #[.int .i32 ((Lib.decodeGo s).1 : Int), .int .i64 ((Lib.decodeGo s).2 : Int)])).put (some 115) (.tuple #[.int .i32 ((Lib.decodeGo s).1 : Int), .int .i64 ((Lib.decodeGo s).2 : Int)])).put (some (115 + 3)) (.int .i32 ((Lib.decodeGo s).1 : Int))).put (some (115 + 4)) (.int .i64 ((Lib.decodeGo s).2 : Int))).put (some 13) (.int .i32 ((Lib.decodeGo s).1 : Int))) (13 + 1) (.int .i64 ((Lib.decodeGo s).2 : Int)) (by simp only [size_put, hA4.size]; decide)
      generalize ((((((a4.put (some (115 + 1)) (.string s)).put (some (115 + 2)) (.tuple #[.int .i32 ((Lib.decodeGo s).1 : Int), .int .i64 ((Lib.decodeGo s).2 : Int)])).put (some 115) (.tuple #[.int .i32 ((Lib.decodeGo s).1 : Int), .int .i64 ((Lib.decodeGo s).2 : Int)])).put (some (115 + 3)) (.int .i32 ((Lib.decodeGo s).1 : Int))).put (some (115 + 4)) (.int .i64 ((Lib.decodeGo s).2 : Int))).put (some 13) (.int .i32 ((Lib.decodeGo s).1 : Int))).put (some (13 + 1)) (.int .i64 ((Lib.decodeGo s).2 : Int)) = a5 at hA5 er' el
      refine wp_seq (r_move ?_)
      show Code.wp _ _ _ _ _
      rw [er']
      have hA6 := hA5.put 120 (.int .i32 ((Lib.decodeGo s).1 : Int)) (by decide)
      have e6 := eval_same a5 120 (.int .i32 ((Lib.decodeGo s).1 : Int)) (by rw [hA5.size]; decide)
      have er6 := (eval_other a5 120 13 (.int .i32 ((Lib.decodeGo s).1 : Int)) (by decide)).trans er'
      have el6 := (eval_other a5 120 (13 + 1) (.int .i32 ((Lib.decodeGo s).1 : Int)) (by decide)).trans el
      generalize a5.put (some 120) (.int .i32 ((Lib.decodeGo s).1 : Int)) = a6 at hA6 e6 er6 el6
      refine wp_block ?_
      refine wp_seq (r_or4 (lo := 120 + 1) (hi := 122 + 3) (by decide) (by rw [hA6.size]; decide) e6 fun a7 S7 t7 => ?_)
      show Code.wp _ _ _ _ _
      have hA7 : HC s pre ⟨w0.heap.size, 0, none⟩ a7 := ⟨S7.size.trans hA6.size, (S7.slot _ (by decide)).trans hA6.s1, (S7.slot _ (by decide)).trans hA6.s2, (S7.slot _ (by decide)).trans hA6.s5, S7.defers.trans hA6.defers⟩
      have er7 := (S7.slot 13 (by decide)).trans er6
      have el7 := (S7.slot (13 + 1) (by decide)).trans el6
      rw [ctl_rune] at t7
      refine wp_cond t7 ?_
      by_cases hr : 9216 ≤ (Lib.decodeGo s).1 ∧ isCtl ((Lib.decodeGo s).1 - 9216) = true
      · rw [if_pos (by simpa using hr)]
        obtain ⟨v1, v2, v3, v4⟩ := ctl_conv hr.2
        have he : (9216 : Int) + (((Lib.decodeGo s).1 - 9216 : Nat) : Int) = ((Lib.decodeGo s).1 : Int) := by omega
        rw [he] at v3
        refine r_sgn4 (S := sgn ((Lib.decodeGo s).1 - 9216)) (by kernel_rfl) hA7.s1 er7 el7 v3 v4 (go_fit s hs0) (by rw [hA7.size]; decide) fun n => ?_
        refine H _ _ ?_ (hW'.drewN n)
        rw [lstep4, if_pos hon, if_neg hc, if_pos hr]
        exact ((((((hA7.put _ _ (by decide)).put _ _ (by decide)).put _ _ (by decide)).put _ _ (by decide)).put _ _ (by decide)).put _ _ (by decide)).set
      · rw [if_neg (by simpa using hr)]
        exact wp_skip (H _ _ (by rw [lstep4, if_pos hon, if_neg hc, if_neg hr]; exact hA7) hW')
end Go.Proofs.YtlgoghonnnobfaaDoor.Enc
namespace Go.Proofs.YtlgoghonnnobfaaDoor.Enc
open Go Go.RowKit Go.Proofs.YtlgoghonnnobfaaDoor.Fr
set_option linter.unusedVariables false
set_option linter.unusedSimpArgs false
/-! ### the tail of a text: a character that the bits of the right take -/
theorem wrap_sub (n l : Nat) (h : l ≤ n) (hn : n ≤ 140737488355328) : IntKind.i64.wrap ((n : Int) - (l : Int)) = ((n - l : Nat) : Int) := by
  rw [IntWalk.i64_in _ (by omega)]; omega
section
variable {Q : Exit → Act → World → Prop} {a : Act} {w : World}
theorem get_last (s : ByteArray) (i : Nat) (h : i < s.size) : s[i]'h = s.get! i := by
  simp only [ByteArray.get!, getElem!_def]
  have h' : i < s.data.size := h
  rw [Array.getElem?_eq_getElem h']
  rfl
theorem r_last {s : ByteArray} {id x : Nat} {c : Int} {p0 p1 p2 p3 p4 p5 : String} {f0 f1 f2 f3 f4 f5 : Array Edge} (h1 : a.eval (.tmp 1) = .string s) (hs : 0 < s.size) (hn : s.size ≤ 140737488355328) (hx : 1 < x ∧ x + 5 < a.tmps.size)
    (H : Q .normal ((((((a.put (some (x)) (.string s)).put (some (x + 1)) (.string s)).put (some (x + 2)) (.int .i64 (s.size : Int))).put (some (x + 3)) (.int .i64 ((s.size - 1 : Nat) : Int))).put (some (x + 4)) (.int .u8 ((s.get! (s.size - 1)).toNat : Int))).put (some (x + 5)) (.bool (((s.get! (s.size - 1)).toNat : Int) == c))) w) :
    (Code.region id #[{ dst := some (x), op := .move (.tmp 1), type := 9, pos := p0, after := f0, guard := none }, { dst := some (x + 1), op := .move (.tmp 1), type := 9, pos := p1, after := f1, guard := none }, { dst := some (x + 2), op := .call { callee := .builtin .len, args := #[.tmp (x + 1)], argTypes := #[9] }, type := 3, pos := p2, after := f2, guard := none }, { dst := some (x + 3), op := .binOp .sub 3 (.tmp (x + 2)) (.const (.int .i64 1)) 3, type := 3, pos := p3, after := f3, guard := none }, { dst := some (x + 4), op := .index 9 (.tmp x) (.tmp (x + 3)), type := 5, pos := p4, after := f4, guard := none }, { dst := some (x + 5), op := .binOp .eql 5 (.tmp (x + 4)) (.const (.int .u8 c)) 5, type := 4, pos := p5, after := f5, guard := none }] false).wp Tryd.prog Q a w := by
  refine wp_region_lit ?_
  refine Fr.move ?_
  rw [h1]
  refine Fr.move ?_
  rw [eval_other _ _ _ _ (show 1 ≠ x by omega), h1]
  refine Fr.step rfl (run_len (s := s) Tryd.underlying9 (eval_same _ _ _ (by first | omega | (simp only [size_put]; omega)))) ?_
  refine Fr.step rfl (run_subi (m := (s.size : Int)) (n := ((1 : Nat) : Int)) Tryd.underlying3 (eval_same _ _ _ (by first | omega | (simp only [size_put]; omega))) rfl) ?_
  rw [wrap_sub _ _ (by omega) hn]
  refine Fr.step rfl (run_index (s := s) (i := s.size - 1) Tryd.underlying9 (by rw [eval_other _ _ _ _ (by omega), eval_other _ _ _ _ (by omega), eval_other _ _ _ _ (by omega)]; exact (eval_same _ _ _ (by first | omega | (simp only [size_put]; omega)))) (eval_same _ _ _ (by first | omega | (simp only [size_put]; omega))) (by omega)) ?_
  rw [get_last]
  refine Fr.step rfl (run_eqli (m := ((s.get! (s.size - 1)).toNat : Int)) (n := c) Tryd.underlying5 (eval_same _ _ _ (by first | omega | (simp only [size_put]; omega))) rfl) ?_
  exact wpList_nil H
theorem r_lasta {s : ByteArray} {id x z : Nat} {p0 p1 p2 p3 p4 p5 : String} {f0 f1 f2 f3 f4 f5 : Array Edge} (h1 : a.eval (.tmp 1) = .string s) (hs : 0 < s.size) (hn : s.size ≤ 140737488355328) (hx : 1 < x ∧ x + 5 < a.tmps.size)
    (H : Q .normal ((((((a.put (some (x)) (.string s)).put (some (x + 1)) (.string s)).put (some (x + 2)) (.int .i64 (s.size : Int))).put (some (x + 3)) (.int .i64 ((s.size - 1 : Nat) : Int))).put (some (x + 4)) (.int .u8 ((s.get! (s.size - 1)).toNat : Int))).put (some z) (.int .u8 ((s.get! (s.size - 1)).toNat : Int))) w) :
    (Code.region id #[{ dst := some (x), op := .move (.tmp 1), type := 9, pos := p0, after := f0, guard := none }, { dst := some (x + 1), op := .move (.tmp 1), type := 9, pos := p1, after := f1, guard := none }, { dst := some (x + 2), op := .call { callee := .builtin .len, args := #[.tmp (x + 1)], argTypes := #[9] }, type := 3, pos := p2, after := f2, guard := none }, { dst := some (x + 3), op := .binOp .sub 3 (.tmp (x + 2)) (.const (.int .i64 1)) 3, type := 3, pos := p3, after := f3, guard := none }, { dst := some (x + 4), op := .index 9 (.tmp x) (.tmp (x + 3)), type := 5, pos := p4, after := f4, guard := none }, { dst := some (z), op := .assign (.tmp (x + 4)), type := 5, pos := p5, after := f5, guard := none }] false).wp Tryd.prog Q a w := by
  refine wp_region_lit ?_
  refine Fr.move ?_
  rw [h1]
  refine Fr.move ?_
  rw [eval_other _ _ _ _ (show 1 ≠ x by omega), h1]
  refine Fr.step rfl (run_len (s := s) Tryd.underlying9 (eval_same _ _ _ (by first | omega | (simp only [size_put]; omega)))) ?_
  refine Fr.step rfl (run_subi (m := (s.size : Int)) (n := ((1 : Nat) : Int)) Tryd.underlying3 (eval_same _ _ _ (by first | omega | (simp only [size_put]; omega))) rfl) ?_
  rw [wrap_sub _ _ (by omega) hn]
  refine Fr.step rfl (run_index (s := s) (i := s.size - 1) Tryd.underlying9 (by rw [eval_other _ _ _ _ (by omega), eval_other _ _ _ _ (by omega), eval_other _ _ _ _ (by omega)]; exact (eval_same _ _ _ (by first | omega | (simp only [size_put]; omega)))) (eval_same _ _ _ (by first | omega | (simp only [size_put]; omega))) (by omega)) ?_
  rw [get_last]
  refine assign ?_
  rw [eval_same _ _ _ (by first | omega | (simp only [size_put]; omega))]
  exact wpList_nil H
theorem r_cutr1 {s S : ByteArray} {id x z l : Nat} {c : Int} {p0 p1 p2 p3 p4 p5 p6 : String} {f0 f1 f2 f3 f4 f5 f6 : Array Edge} (hB : Region.lexB .any ([{ dst := some (x), op := .move (.tmp 1), type := 9, pos := p0, after := f0, guard := none }, { dst := some (x + 1), op := .move (.tmp 1), type := 9, pos := p1, after := f1, guard := none }, { dst := some (x + 2), op := .call { callee := .builtin .len, args := #[.tmp (x + 1)], argTypes := #[9] }, type := 3, pos := p2, after := f2, guard := none }, { dst := some (x + 3), op := .binOp .sub 3 (.tmp (x + 2)) (.const (.int .i64 1)) 3, type := 3, pos := p3, after := f3, guard := none }, { dst := some (x + 4), op := .slice 9 (.tmp x) none (some (.tmp (x + 3))) none, type := 9, pos := p4, after := f4, guard := none }, { dst := some (15), op := .assign (.const (.string S)), type := 9, pos := p5, after := f5, guard := none }, { dst := some (1), op := .assign (.tmp (x + 4)), type := 9, pos := p6, after := f6, guard := none }] : List Oper).toArray = true) (h1 : a.eval (.tmp 1) = .string s) (hn : s.size ≤ 140737488355328) (hs : 0 < s.size) (hx : 15 < x ∧ x + 4 < a.tmps.size)
    (H : ∀ n, Q .normal (((((((a.put (some (x)) (.string s)).put (some (x + 1)) (.string s)).put (some (x + 2)) (.int .i64 (s.size : Int))).put (some (x + 3)) (.int .i64 ((s.size - 1 : Nat) : Int))).put (some (x + 4)) (.string (s.extract 0 (s.size - 1)))).put (some (15)) (.string S)).put (some (1)) (.string (s.extract 0 (s.size - 1)))) (w.drewN n)) :
    (Code.region id #[{ dst := some (x), op := .move (.tmp 1), type := 9, pos := p0, after := f0, guard := none }, { dst := some (x + 1), op := .move (.tmp 1), type := 9, pos := p1, after := f1, guard := none }, { dst := some (x + 2), op := .call { callee := .builtin .len, args := #[.tmp (x + 1)], argTypes := #[9] }, type := 3, pos := p2, after := f2, guard := none }, { dst := some (x + 3), op := .binOp .sub 3 (.tmp (x + 2)) (.const (.int .i64 1)) 3, type := 3, pos := p3, after := f3, guard := none }, { dst := some (x + 4), op := .slice 9 (.tmp x) none (some (.tmp (x + 3))) none, type := 9, pos := p4, after := f4, guard := none }, { dst := some (15), op := .assign (.const (.string S)), type := 9, pos := p5, after := f5, guard := none }, { dst := some (1), op := .assign (.tmp (x + 4)), type := 9, pos := p6, after := f6, guard := none }] true).wp Tryd.prog Q a w := by
  refine wp_region_quiet_lit mixed hB ?_
  refine qstep rfl (fun _ => rfl) ?_
  rw [h1]
  refine qstep rfl (fun _ => rfl) ?_
  rw [eval_other _ _ _ _ (show 1 ≠ x by omega), h1]
  refine qstep rfl (fun w => run_len (s := s) Tryd.underlying9 (eval_same _ _ _ (by first | omega | (simp only [size_put]; omega)))) ?_
  refine qstep rfl (fun w => run_subi (m := (s.size : Int)) (n := ((1 : Nat) : Int)) Tryd.underlying3 (eval_same _ _ _ (by first | omega | (simp only [size_put]; omega))) rfl) ?_
  rw [wrap_sub _ _ (by omega) hn]
  refine qstep rfl (fun w => run_to (s := s) (i := s.size - 1) Tryd.underlying9 (by rw [eval_other _ _ _ _ (by omega), eval_other _ _ _ _ (by omega), eval_other _ _ _ _ (by omega)]; exact (eval_same _ _ _ (by first | omega | (simp only [size_put]; omega)))) (eval_same _ _ _ (by first | omega | (simp only [size_put]; omega))) (by omega)) ?_
  refine qstep rfl (fun _ => rfl) ?_
  rw [eval_const]
  refine qstep rfl (fun _ => rfl) ?_
  rw [show (((((((a.put (some (x)) (.string s)).put (some (x + 1)) (.string s)).put (some (x + 2)) (.int .i64 (s.size : Int))).put (some (x + 3)) (.int .i64 ((s.size - 1 : Nat) : Int))).put (some (x + 4)) (.string (s.extract 0 (s.size - 1)))).put (some (15)) (.string S))).eval (.tmp (x + 4)) = .string (s.extract 0 (s.size - 1)) from by rw [eval_other _ _ _ _ (by omega)]; exact (eval_same _ _ _ (by first | omega | (simp only [size_put]; omega)))]
  refine wpQuiet_nil ?_
  rintro w' ⟨n, rfl⟩
  exact H n
theorem r_cutrl {s S : ByteArray} {id x z l : Nat} {c : Int} {p0 p1 p2 p3 p4 p5 p6 p7 : String} {f0 f1 f2 f3 f4 f5 f6 f7 : Array Edge} (hB : Region.lexB .any ([{ dst := some (x), op := .move (.tmp 1), type := 9, pos := p0, after := f0, guard := none }, { dst := some (x + 1), op := .move (.tmp 1), type := 9, pos := p1, after := f1, guard := none }, { dst := some (x + 2), op := .call { callee := .builtin .len, args := #[.tmp (x + 1)], argTypes := #[9] }, type := 3, pos := p2, after := f2, guard := none }, { dst := some (x + 3), op := .move (.tmp z), type := 3, pos := p3, after := f3, guard := none }, { dst := some (x + 4), op := .binOp .sub 3 (.tmp (x + 2)) (.tmp (x + 3)) 3, type := 3, pos := p4, after := f4, guard := none }, { dst := some (x + 5), op := .slice 9 (.tmp x) none (some (.tmp (x + 4))) none, type := 9, pos := p5, after := f5, guard := none }, { dst := some (15), op := .assign (.const (.string S)), type := 9, pos := p6, after := f6, guard := none }, { dst := some (1), op := .assign (.tmp (x + 5)), type := 9, pos := p7, after := f7, guard := none }] : List Oper).toArray = true) (h1 : a.eval (.tmp 1) = .string s) (hn : s.size ≤ 140737488355328) (hz : a.eval (.tmp z) = .int .i64 (l : Int)) (hl : l ≤ s.size) (hx : 15 < x ∧ x + 5 < a.tmps.size ∧ z < x)
    (H : ∀ n, Q .normal ((((((((a.put (some (x)) (.string s)).put (some (x + 1)) (.string s)).put (some (x + 2)) (.int .i64 (s.size : Int))).put (some (x + 3)) (.int .i64 (l : Int))).put (some (x + 4)) (.int .i64 ((s.size - l : Nat) : Int))).put (some (x + 5)) (.string (s.extract 0 (s.size - l)))).put (some (15)) (.string S)).put (some (1)) (.string (s.extract 0 (s.size - l)))) (w.drewN n)) :
    (Code.region id #[{ dst := some (x), op := .move (.tmp 1), type := 9, pos := p0, after := f0, guard := none }, { dst := some (x + 1), op := .move (.tmp 1), type := 9, pos := p1, after := f1, guard := none }, { dst := some (x + 2), op := .call { callee := .builtin .len, args := #[.tmp (x + 1)], argTypes := #[9] }, type := 3, pos := p2, after := f2, guard := none }, { dst := some (x + 3), op := .move (.tmp z), type := 3, pos := p3, after := f3, guard := none }, { dst := some (x + 4), op := .binOp .sub 3 (.tmp (x + 2)) (.tmp (x + 3)) 3, type := 3, pos := p4, after := f4, guard := none }, { dst := some (x + 5), op := .slice 9 (.tmp x) none (some (.tmp (x + 4))) none, type := 9, pos := p5, after := f5, guard := none }, { dst := some (15), op := .assign (.const (.string S)), type := 9, pos := p6, after := f6, guard := none }, { dst := some (1), op := .assign (.tmp (x + 5)), type := 9, pos := p7, after := f7, guard := none }] true).wp Tryd.prog Q a w := by
  refine wp_region_quiet_lit mixed hB ?_
  refine qstep rfl (fun _ => rfl) ?_
  rw [h1]
  refine qstep rfl (fun _ => rfl) ?_
  rw [eval_other _ _ _ _ (show 1 ≠ x by omega), h1]
  refine qstep rfl (fun w => run_len (s := s) Tryd.underlying9 (eval_same _ _ _ (by first | omega | (simp only [size_put]; omega)))) ?_
  refine qstep rfl (fun _ => rfl) ?_
  rw [show ((((a.put (some (x)) (.string s)).put (some (x + 1)) (.string s)).put (some (x + 2)) (.int .i64 (s.size : Int)))).eval (.tmp z) = .int .i64 (l : Int) from by rw [eval_other _ _ _ _ (by omega), eval_other _ _ _ _ (by omega), eval_other _ _ _ _ (by omega)]; exact hz]
  refine qstep rfl (fun w => run_subi (m := (s.size : Int)) (n := (l : Int)) Tryd.underlying3 (by rw [eval_other _ _ _ _ (by omega)]; exact (eval_same _ _ _ (by first | omega | (simp only [size_put]; omega)))) (eval_same _ _ _ (by first | omega | (simp only [size_put]; omega)))) ?_
  rw [wrap_sub _ _ hl hn]
  refine qstep rfl (fun w => run_to (s := s) (i := s.size - l) Tryd.underlying9 (by rw [eval_other _ _ _ _ (by omega), eval_other _ _ _ _ (by omega), eval_other _ _ _ _ (by omega), eval_other _ _ _ _ (by omega)]; exact (eval_same _ _ _ (by first | omega | (simp only [size_put]; omega)))) (eval_same _ _ _ (by first | omega | (simp only [size_put]; omega))) (by omega)) ?_
  refine qstep rfl (fun _ => rfl) ?_
  rw [eval_const]
  refine qstep rfl (fun _ => rfl) ?_
  rw [show ((((((((a.put (some (x)) (.string s)).put (some (x + 1)) (.string s)).put (some (x + 2)) (.int .i64 (s.size : Int))).put (some (x + 3)) (.int .i64 (l : Int))).put (some (x + 4)) (.int .i64 ((s.size - l : Nat) : Int))).put (some (x + 5)) (.string (s.extract 0 (s.size - l)))).put (some (15)) (.string S))).eval (.tmp (x + 5)) = .string (s.extract 0 (s.size - l)) from by rw [eval_other _ _ _ _ (by omega)]; exact (eval_same _ _ _ (by first | omega | (simp only [size_put]; omega)))]
  refine wpQuiet_nil ?_
  rintro w' ⟨n, rfl⟩
  exact H n
theorem r_ctl5 {s S : ByteArray} {id x z l : Nat} {c : Int} {p0 p1 p2 p3 p4 p5 p6 p7 p8 p9 p10 : String} {f0 f1 f2 f3 f4 f5 f6 f7 f8 f9 f10 : Array Edge} (hB : Region.lexB .any ([{ dst := some (x), op := .move (.tmp z), type := 5, pos := p0, after := f0, guard := none }, { dst := some (x + 1), op := .convert 5 21 (.tmp x), type := 21, pos := p1, after := f1, guard := none }, { dst := some (x + 2), op := .binOp .add 21 (.const (.int .i32 9216)) (.tmp (x + 1)) 21, type := 21, pos := p2, after := f2, guard := none }, { dst := some (x + 3), op := .convert 21 9 (.tmp (x + 2)), type := 9, pos := p3, after := f3, guard := none }, { dst := some (x + 4), op := .move (.tmp 1), type := 9, pos := p4, after := f4, guard := none }, { dst := some (x + 5), op := .move (.tmp 1), type := 9, pos := p5, after := f5, guard := none }, { dst := some (x + 6), op := .call { callee := .builtin .len, args := #[.tmp (x + 5)], argTypes := #[9] }, type := 3, pos := p6, after := f6, guard := none }, { dst := some (x + 7), op := .binOp .sub 3 (.tmp (x + 6)) (.const (.int .i64 1)) 3, type := 3, pos := p7, after := f7, guard := none }, { dst := some (x + 8), op := .slice 9 (.tmp (x + 4)) none (some (.tmp (x + 7))) none, type := 9, pos := p8, after := f8, guard := none }, { dst := some (15), op := .assign (.tmp (x + 3)), type := 9, pos := p9, after := f9, guard := none }, { dst := some (1), op := .assign (.tmp (x + 8)), type := 9, pos := p10, after := f10, guard := none }] : List Oper).toArray = true) (h1 : a.eval (.tmp 1) = .string s) (hn : s.size ≤ 140737488355328) (hz : a.eval (.tmp z) = .int .u8 c) (hc1 : ∀ w, (convert 5 21 (.int .u8 c)).run Tryd.prog w = .ok (.int .i32 c) w) (hw : IntKind.i32.wrap (9216 + c) = 9216 + c) (hc2 : ∀ w, (convert 21 9 (.int .i32 (9216 + c))).run Tryd.prog w = .ok (.string S) w) (hs : 0 < s.size) (hx : 15 < x ∧ x + 8 < a.tmps.size)
    (H : ∀ n, Q .normal (((((((((((a.put (some (x)) (.int .u8 c)).put (some (x + 1)) (.int .i32 c)).put (some (x + 2)) (.int .i32 (9216 + c))).put (some (x + 3)) (.string S)).put (some (x + 4)) (.string s)).put (some (x + 5)) (.string s)).put (some (x + 6)) (.int .i64 (s.size : Int))).put (some (x + 7)) (.int .i64 ((s.size - 1 : Nat) : Int))).put (some (x + 8)) (.string (s.extract 0 (s.size - 1)))).put (some (15)) (.string S)).put (some (1)) (.string (s.extract 0 (s.size - 1)))) (w.drewN n)) :
    (Code.region id #[{ dst := some (x), op := .move (.tmp z), type := 5, pos := p0, after := f0, guard := none }, { dst := some (x + 1), op := .convert 5 21 (.tmp x), type := 21, pos := p1, after := f1, guard := none }, { dst := some (x + 2), op := .binOp .add 21 (.const (.int .i32 9216)) (.tmp (x + 1)) 21, type := 21, pos := p2, after := f2, guard := none }, { dst := some (x + 3), op := .convert 21 9 (.tmp (x + 2)), type := 9, pos := p3, after := f3, guard := none }, { dst := some (x + 4), op := .move (.tmp 1), type := 9, pos := p4, after := f4, guard := none }, { dst := some (x + 5), op := .move (.tmp 1), type := 9, pos := p5, after := f5, guard := none }, { dst := some (x + 6), op := .call { callee := .builtin .len, args := #[.tmp (x + 5)], argTypes := #[9] }, type := 3, pos := p6, after := f6, guard := none }, { dst := some (x + 7), op := .binOp .sub 3 (.tmp (x + 6)) (.const (.int .i64 1)) 3, type := 3, pos := p7, after := f7, guard := none }, { dst := some (x + 8), op := .slice 9 (.tmp (x + 4)) none (some (.tmp (x + 7))) none, type := 9, pos := p8, after := f8, guard := none }, { dst := some (15), op := .assign (.tmp (x + 3)), type := 9, pos := p9, after := f9, guard := none }, { dst := some (1), op := .assign (.tmp (x + 8)), type := 9, pos := p10, after := f10, guard := none }] true).wp Tryd.prog Q a w := by
  refine wp_region_quiet_lit mixed hB ?_
  refine qstep rfl (fun _ => rfl) ?_
  rw [hz]
  refine qstep rfl (fun w => run_conv (eval_same _ _ _ (by first | omega | (simp only [size_put]; omega))) (hc1 w)) ?_
  refine qstep rfl (fun w => run_addi (m := 9216) (n := c) Tryd.underlying21 rfl (eval_same _ _ _ (by first | omega | (simp only [size_put]; omega)))) ?_
  rw [hw]
  refine qstep rfl (fun w => run_conv (eval_same _ _ _ (by first | omega | (simp only [size_put]; omega))) (hc2 w)) ?_
  refine qstep rfl (fun _ => rfl) ?_
  rw [show (((((a.put (some (x)) (.int .u8 c)).put (some (x + 1)) (.int .i32 c)).put (some (x + 2)) (.int .i32 (9216 + c))).put (some (x + 3)) (.string S))).eval (.tmp 1) = .string s from by rw [eval_other _ _ _ _ (by omega), eval_other _ _ _ _ (by omega), eval_other _ _ _ _ (by omega), eval_other _ _ _ _ (by omega)]; exact h1]
  refine qstep rfl (fun _ => rfl) ?_
  rw [show ((((((a.put (some (x)) (.int .u8 c)).put (some (x + 1)) (.int .i32 c)).put (some (x + 2)) (.int .i32 (9216 + c))).put (some (x + 3)) (.string S)).put (some (x + 4)) (.string s))).eval (.tmp 1) = .string s from by rw [eval_other _ _ _ _ (by omega), eval_other _ _ _ _ (by omega), eval_other _ _ _ _ (by omega), eval_other _ _ _ _ (by omega), eval_other _ _ _ _ (by omega)]; exact h1]
  refine qstep rfl (fun w => run_len (s := s) Tryd.underlying9 (eval_same _ _ _ (by first | omega | (simp only [size_put]; omega)))) ?_
  refine qstep rfl (fun w => run_subi (m := (s.size : Int)) (n := ((1 : Nat) : Int)) Tryd.underlying3 (eval_same _ _ _ (by first | omega | (simp only [size_put]; omega))) rfl) ?_
  rw [wrap_sub _ _ (by omega) hn]
  refine qstep rfl (fun w => run_to (s := s) (i := s.size - 1) Tryd.underlying9 (by rw [eval_other _ _ _ _ (by omega), eval_other _ _ _ _ (by omega), eval_other _ _ _ _ (by omega)]; exact (eval_same _ _ _ (by first | omega | (simp only [size_put]; omega)))) (eval_same _ _ _ (by first | omega | (simp only [size_put]; omega))) (by omega)) ?_
  refine qstep rfl (fun _ => rfl) ?_
  rw [show ((((((((((a.put (some (x)) (.int .u8 c)).put (some (x + 1)) (.int .i32 c)).put (some (x + 2)) (.int .i32 (9216 + c))).put (some (x + 3)) (.string S)).put (some (x + 4)) (.string s)).put (some (x + 5)) (.string s)).put (some (x + 6)) (.int .i64 (s.size : Int))).put (some (x + 7)) (.int .i64 ((s.size - 1 : Nat) : Int))).put (some (x + 8)) (.string (s.extract 0 (s.size - 1))))).eval (.tmp (x + 3)) = .string S from by rw [eval_other _ _ _ _ (by omega), eval_other _ _ _ _ (by omega), eval_other _ _ _ _ (by omega), eval_other _ _ _ _ (by omega), eval_other _ _ _ _ (by omega)]; exact (eval_same _ _ _ (by first | omega | (simp only [size_put]; omega)))]
  refine qstep rfl (fun _ => rfl) ?_
  rw [show (((((((((((a.put (some (x)) (.int .u8 c)).put (some (x + 1)) (.int .i32 c)).put (some (x + 2)) (.int .i32 (9216 + c))).put (some (x + 3)) (.string S)).put (some (x + 4)) (.string s)).put (some (x + 5)) (.string s)).put (some (x + 6)) (.int .i64 (s.size : Int))).put (some (x + 7)) (.int .i64 ((s.size - 1 : Nat) : Int))).put (some (x + 8)) (.string (s.extract 0 (s.size - 1)))).put (some (15)) (.string S))).eval (.tmp (x + 8)) = .string (s.extract 0 (s.size - 1)) from by rw [eval_other _ _ _ _ (by omega)]; exact (eval_same _ _ _ (by first | omega | (simp only [size_put]; omega)))]
  refine wpQuiet_nil ?_
  rintro w' ⟨n, rfl⟩
  exact H n
theorem r_sgn5 {s S : ByteArray} {id x z l : Nat} {c : Int} {p0 p1 p2 p3 p4 p5 p6 p7 p8 p9 p10 : String} {f0 f1 f2 f3 f4 f5 f6 f7 f8 f9 f10 : Array Edge} (hB : Region.lexB .any ([{ dst := some (x), op := .move (.tmp z), type := 21, pos := p0, after := f0, guard := none }, { dst := some (x + 1), op := .convert 21 9 (.tmp x), type := 9, pos := p1, after := f1, guard := none }, { dst := some (x + 2), op := .binOp .add 9 (.const (.string ⟨#[226, 128, 155]⟩)) (.tmp (x + 1)) 9, type := 9, pos := p2, after := f2, guard := none }, { dst := some (x + 3), op := .move (.tmp 1), type := 9, pos := p3, after := f3, guard := none }, { dst := some (x + 4), op := .move (.tmp 1), type := 9, pos := p4, after := f4, guard := none }, { dst := some (x + 5), op := .call { callee := .builtin .len, args := #[.tmp (x + 4)], argTypes := #[9] }, type := 3, pos := p5, after := f5, guard := none }, { dst := some (x + 6), op := .move (.tmp (z + 1)), type := 3, pos := p6, after := f6, guard := none }, { dst := some (x + 7), op := .binOp .sub 3 (.tmp (x + 5)) (.tmp (x + 6)) 3, type := 3, pos := p7, after := f7, guard := none }, { dst := some (x + 8), op := .slice 9 (.tmp (x + 3)) none (some (.tmp (x + 7))) none, type := 9, pos := p8, after := f8, guard := none }, { dst := some (15), op := .assign (.tmp (x + 2)), type := 9, pos := p9, after := f9, guard := none }, { dst := some (1), op := .assign (.tmp (x + 8)), type := 9, pos := p10, after := f10, guard := none }] : List Oper).toArray = true) (h1 : a.eval (.tmp 1) = .string s) (hn : s.size ≤ 140737488355328) (hz : a.eval (.tmp z) = .int .i32 c) (hz2 : a.eval (.tmp (z + 1)) = .int .i64 (l : Int)) (hc2 : ∀ w, (convert 21 9 (.int .i32 c)).run Tryd.prog w = .ok (.string S) w) (hS : S.size ≤ 1000) (hl : l ≤ s.size) (hx : 15 < x ∧ x + 8 < a.tmps.size ∧ z + 1 < x)
    (H : ∀ n, Q .normal (((((((((((a.put (some (x)) (.int .i32 c)).put (some (x + 1)) (.string S)).put (some (x + 2)) (.string (⟨#[226, 128, 155]⟩ ++ S))).put (some (x + 3)) (.string s)).put (some (x + 4)) (.string s)).put (some (x + 5)) (.int .i64 (s.size : Int))).put (some (x + 6)) (.int .i64 (l : Int))).put (some (x + 7)) (.int .i64 ((s.size - l : Nat) : Int))).put (some (x + 8)) (.string (s.extract 0 (s.size - l)))).put (some (15)) (.string (⟨#[226, 128, 155]⟩ ++ S))).put (some (1)) (.string (s.extract 0 (s.size - l)))) (w.drewN n)) :
    (Code.region id #[{ dst := some (x), op := .move (.tmp z), type := 21, pos := p0, after := f0, guard := none }, { dst := some (x + 1), op := .convert 21 9 (.tmp x), type := 9, pos := p1, after := f1, guard := none }, { dst := some (x + 2), op := .binOp .add 9 (.const (.string ⟨#[226, 128, 155]⟩)) (.tmp (x + 1)) 9, type := 9, pos := p2, after := f2, guard := none }, { dst := some (x + 3), op := .move (.tmp 1), type := 9, pos := p3, after := f3, guard := none }, { dst := some (x + 4), op := .move (.tmp 1), type := 9, pos := p4, after := f4, guard := none }, { dst := some (x + 5), op := .call { callee := .builtin .len, args := #[.tmp (x + 4)], argTypes := #[9] }, type := 3, pos := p5, after := f5, guard := none }, { dst := some (x + 6), op := .move (.tmp (z + 1)), type := 3, pos := p6, after := f6, guard := none }, { dst := some (x + 7), op := .binOp .sub 3 (.tmp (x + 5)) (.tmp (x + 6)) 3, type := 3, pos := p7, after := f7, guard := none }, { dst := some (x + 8), op := .slice 9 (.tmp (x + 3)) none (some (.tmp (x + 7))) none, type := 9, pos := p8, after := f8, guard := none }, { dst := some (15), op := .assign (.tmp (x + 2)), type := 9, pos := p9, after := f9, guard := none }, { dst := some (1), op := .assign (.tmp (x + 8)), type := 9, pos := p10, after := f10, guard := none }] true).wp Tryd.prog Q a w := by
  refine wp_region_quiet_lit mixed hB ?_
  refine qstep rfl (fun _ => rfl) ?_
  rw [hz]
  refine qstep rfl (fun w => run_conv (eval_same _ _ _ (by first | omega | (simp only [size_put]; omega))) (hc2 w)) ?_
  refine qstep rfl (fun w => run_adds (u := ⟨#[226, 128, 155]⟩) (v := S) Tryd.underlying9 rfl (eval_same _ _ _ (by first | omega | (simp only [size_put]; omega))) (by have : (⟨#[226, 128, 155]⟩ : ByteArray).size = 3 := rfl; omega)) ?_
  refine qstep rfl (fun _ => rfl) ?_
  rw [show ((((a.put (some (x)) (.int .i32 c)).put (some (x + 1)) (.string S)).put (some (x + 2)) (.string (⟨#[226, 128, 155]⟩ ++ S)))).eval (.tmp 1) = .string s from by rw [eval_other _ _ _ _ (by omega), eval_other _ _ _ _ (by omega), eval_other _ _ _ _ (by omega)]; exact h1]
  refine qstep rfl (fun _ => rfl) ?_
  rw [show (((((a.put (some (x)) (.int .i32 c)).put (some (x + 1)) (.string S)).put (some (x + 2)) (.string (⟨#[226, 128, 155]⟩ ++ S))).put (some (x + 3)) (.string s))).eval (.tmp 1) = .string s from by rw [eval_other _ _ _ _ (by omega), eval_other _ _ _ _ (by omega), eval_other _ _ _ _ (by omega), eval_other _ _ _ _ (by omega)]; exact h1]
  refine qstep rfl (fun w => run_len (s := s) Tryd.underlying9 (eval_same _ _ _ (by first | omega | (simp only [size_put]; omega)))) ?_
  refine qstep rfl (fun _ => rfl) ?_
  rw [show (((((((a.put (some (x)) (.int .i32 c)).put (some (x + 1)) (.string S)).put (some (x + 2)) (.string (⟨#[226, 128, 155]⟩ ++ S))).put (some (x + 3)) (.string s)).put (some (x + 4)) (.string s)).put (some (x + 5)) (.int .i64 (s.size : Int)))).eval (.tmp (z + 1)) = .int .i64 (l : Int) from by rw [eval_other _ _ _ _ (by omega), eval_other _ _ _ _ (by omega), eval_other _ _ _ _ (by omega), eval_other _ _ _ _ (by omega), eval_other _ _ _ _ (by omega), eval_other _ _ _ _ (by omega)]; exact hz2]
  refine qstep rfl (fun w => run_subi (m := (s.size : Int)) (n := (l : Int)) Tryd.underlying3 (by rw [eval_other _ _ _ _ (by omega)]; exact (eval_same _ _ _ (by first | omega | (simp only [size_put]; omega)))) (eval_same _ _ _ (by first | omega | (simp only [size_put]; omega)))) ?_
  rw [wrap_sub _ _ hl hn]
  refine qstep rfl (fun w => run_to (s := s) (i := s.size - l) Tryd.underlying9 (by rw [eval_other _ _ _ _ (by omega), eval_other _ _ _ _ (by omega), eval_other _ _ _ _ (by omega), eval_other _ _ _ _ (by omega)]; exact (eval_same _ _ _ (by first | omega | (simp only [size_put]; omega)))) (eval_same _ _ _ (by first | omega | (simp only [size_put]; omega))) (by omega)) ?_
  refine qstep rfl (fun _ => rfl) ?_
  rw [show ((((((((((a.put (some (x)) (.int .i32 c)).put (some (x + 1)) (.string S)).put (some (x + 2)) (.string (⟨#[226, 128, 155]⟩ ++ S))).put (some (x + 3)) (.string s)).put (some (x + 4)) (.string s)).put (some (x + 5)) (.int .i64 (s.size : Int))).put (some (x + 6)) (.int .i64 (l : Int))).put (some (x + 7)) (.int .i64 ((s.size - l : Nat) : Int))).put (some (x + 8)) (.string (s.extract 0 (s.size - l))))).eval (.tmp (x + 2)) = .string (⟨#[226, 128, 155]⟩ ++ S) from by rw [eval_other _ _ _ _ (by omega), eval_other _ _ _ _ (by omega), eval_other _ _ _ _ (by omega), eval_other _ _ _ _ (by omega), eval_other _ _ _ _ (by omega), eval_other _ _ _ _ (by omega)]; exact (eval_same _ _ _ (by first | omega | (simp only [size_put]; omega)))]
  refine qstep rfl (fun _ => rfl) ?_
  rw [show (((((((((((a.put (some (x)) (.int .i32 c)).put (some (x + 1)) (.string S)).put (some (x + 2)) (.string (⟨#[226, 128, 155]⟩ ++ S))).put (some (x + 3)) (.string s)).put (some (x + 4)) (.string s)).put (some (x + 5)) (.int .i64 (s.size : Int))).put (some (x + 6)) (.int .i64 (l : Int))).put (some (x + 7)) (.int .i64 ((s.size - l : Nat) : Int))).put (some (x + 8)) (.string (s.extract 0 (s.size - l)))).put (some (15)) (.string (⟨#[226, 128, 155]⟩ ++ S)))).eval (.tmp (x + 8)) = .string (s.extract 0 (s.size - l)) from by rw [eval_other _ _ _ _ (by omega)]; exact (eval_same _ _ _ (by first | omega | (simp only [size_put]; omega)))]
  refine wpQuiet_nil ?_
  rintro w' ⟨n, rfl⟩
  exact H n
end
end Go.Proofs.YtlgoghonnnobfaaDoor.Enc
namespace Go.Proofs.YtlgoghonnnobfaaDoor.Enc
open Go Go.RowKit Go.Proofs.YtlgoghonnnobfaaDoor.Fr
set_option linter.unusedVariables false
set_option linter.unusedSimpArgs false
def rstep (m f : Int) (c R : Nat) (S : List UInt8) (p : ByteArray × ByteArray) : ByteArray × ByteArray :=
  if hb m f = true ∧ p.1.data.toList = [] then
    (if (p.2.get! (p.2.size - 1)).toNat = c then (⟨S.toArray⟩, p.2.extract 0 (p.2.size - 1))
     else if (Lib.decodeLastL p.2.data.toList).1 = R then (⟨(226 :: 128 :: 155 :: S).toArray⟩, p.2.extract 0 (p.2.size - (Lib.decodeLastL p.2.data.toList).2)) else p)
  else p
def rstep4 (m : Int) (p : ByteArray × ByteArray) : ByteArray × ByteArray :=
  if hb m 8388608 = true ∧ p.1.data.toList = [] then
    (if isCtl (p.2.get! (p.2.size - 1)).toNat = true then (sgn (p.2.get! (p.2.size - 1)).toNat, p.2.extract 0 (p.2.size - 1))
     else if 9216 ≤ (Lib.decodeLastL p.2.data.toList).1 ∧ isCtl ((Lib.decodeLastL p.2.data.toList).1 - 9216) = true then (⟨#[226, 128, 155]⟩ ++ sgn ((Lib.decodeLastL p.2.data.toList).1 - 9216), p.2.extract 0 (p.2.size - (Lib.decodeLastL p.2.data.toList).2)) else p)
  else p
structure TC (s pre suf : ByteArray) (pm : Addr) (a : Act) : Prop where
  size : a.tmps.size = 602
  s1 : a.eval (.tmp 1) = .string s
  s2 : a.eval (.tmp 2) = .pointer (some pm)
  s5 : a.eval (.tmp 5) = .string pre
  s15 : a.eval (.tmp 15) = .string suf
  defers : a.defers = []
theorem TC.put {s pre suf : ByteArray} {pm : Addr} {a : Act} (h : TC s pre suf pm a) (d : Nat) (v : Value) (h1 : 15 < d) : TC s pre suf pm (a.put (some d) v) :=
  ⟨(size_put _ _ _).trans h.size, (eval_other _ _ _ _ (by omega)).trans h.s1, (eval_other _ _ _ _ (by omega)).trans h.s2, (eval_other _ _ _ _ (by omega)).trans h.s5, (eval_other _ _ _ _ (by omega)).trans h.s15, (defers_put _ _ _).trans h.defers⟩
theorem TC.set {s pre suf s' suf' : ByteArray} {pm : Addr} {a : Act} (h : TC s pre suf pm a) : TC s' pre suf' pm ((a.put (some 15) (.string suf')).put (some 1) (.string s')) :=
  ⟨by simp only [size_put]; exact h.size, eval_same _ _ _ (by rw [size_put, h.size]; decide), by rw [eval_other _ _ _ _ (by decide), eval_other _ _ _ _ (by decide)]; exact h.s2, by rw [eval_other _ _ _ _ (by decide), eval_other _ _ _ _ (by decide)]; exact h.s5, by rw [eval_other _ _ _ _ (by decide)]; exact eval_same _ _ _ (by rw [h.size]; decide), by simp only [defers_put]; exact h.defers⟩
theorem enters42 : Enters Tryd.prog 42 := enters_of Tryd.func42 (by kernel_rfl) rfl
theorem decl_call {w0 w : World} {m : Int} (hT : Lib.Utf8Tabs 0 1 w0) (h : WB w0 m w) (s : ByteArray) (hn : s.size ≤ 140737488355328) : Calls Tryd.prog 42 #[.string s] w fun e w' => e = .returned (.tuple #[.int .i32 ((Lib.decodeLastL s.data.toList).1 : Int), .int .i64 ((Lib.decodeLastL s.data.toList).2 : Int)]) ∧ WB w0 m w' :=
  (Shelf.Tryd.utf8_DecodeLastRuneInString s w (by omega) (Utf8Tabs_below hT h.below)).mono fun e w' hh => ⟨hh.1, h.old hh.2⟩
theorem last_fit (s : ByteArray) : (Lib.decodeLastL s.data.toList).2 ≤ s.size := by
  have hl : s.data.toList.length = s.size := rfl
  unfold Lib.decodeLastL
  split
  · simp
  · rename_i hne
    have : 0 < s.data.toList.length := List.length_pos_iff.2 hne
    split
    · simp only; omega
    · simp only
      split
      · omega
      · simp only; omega
set_option maxRecDepth 100000 in
set_option maxHeartbeats 1000000 in
theorem trail1 {Q : Exit → Act → World → Prop} {a : Act} {w0 w : World} {m : Int} {s pre suf : ByteArray} (hT : Lib.Utf8Tabs 0 1 w0) (hA : TC s pre suf ⟨w0.heap.size, 0, none⟩ a) (hW : WB w0 m w) (hs : suf.data.toList = [] → 0 < s.size) (hn : s.size ≤ 140737488355328) (hsuf : suf.data.toList = [])
    (H : ∀ a' w', TC (rstep m 2097152 32 9248 [226, 144, 160] (suf, s)).2 pre (rstep m 2097152 32 9248 [226, 144, 160] (suf, s)).1 ⟨w0.heap.size, 0, none⟩ a' → WB w0 m w' → Q .normal a' w') :
    (piece [1, 1, 1, 1, 1, 1, 1, 1, 1, 1, 0, 1, 0, 0] (Tryd.f29.body.getD .skip)).wp Tryd.prog Q a w := by
  conv => arg 2; whnf
  refine wp_seq (r_has (by rw [hA.size]; decide) hA.s2 hW.cell ?_)
  show Code.wp _ _ _ _ _
  have hA1 := (hA.put 145 (.int .u64 m) (by decide)).put (145 + 1) (.bool (hb m 2097152)) (by decide)
  have ec := eval_same (a.put (some 145) (.int .u64 m)) (145 + 1) (.bool (hb m 2097152)) (by rw [size_put, hA.size]; decide)
  generalize (a.put (some 145) (.int .u64 m)).put (some (145 + 1)) (.bool (hb m 2097152)) = a1 at hA1 ec
  refine wp_cond ec ?_
  have hcond : (hb m 2097152 = true ∧ suf.data.toList = []) ↔ hb m 2097152 = true := ⟨fun h => h.1, fun h => ⟨h, hsuf⟩⟩
  cases hh : hb m 2097152 with
  | false =>
    rw [if_neg (by decide)]
    exact wp_skip (H _ _ (by rw [rstep, if_neg (by rw [hcond, hh]; decide)]; exact hA1) hW)
  | true =>
    have hon : hb m 2097152 = true ∧ suf.data.toList = [] := hcond.2 hh
    rw [if_pos rfl]
    have hs0 := hs hon.2
    refine wp_seq (r_last hA1.s1 hs0 hn (by rw [hA1.size]; decide) ?_)
    show Code.wp _ _ _ _ _
    have hA2 := (((((hA1.put 147 (.string s) (by decide)).put (147 + 1) (.string s) (by decide)).put (147 + 2) (.int .i64 (s.size : Int)) (by decide)).put (147 + 3) (.int .i64 ((s.size - 1 : Nat) : Int)) (by decide)).put (147 + 4) (.int .u8 ((s.get! (s.size - 1)).toNat : Int)) (by decide)).put (147 + 5) (.bool (((s.get! (s.size - 1)).toNat : Int) == 32)) (by decide)
    have ef := eval_same (((((a1.put (some 147) (.string s)).put (some (147 + 1)) (.string s)).put (some (147 + 2)) (.int .i64 (s.size : Int))).put (some (147 + 3)) (.int .i64 ((s.size - 1 : Nat) : Int))).put (some (147 + 4)) (.int .u8 ((s.get! (s.size - 1)).toNat : Int))) (147 + 5) (.bool (((s.get! (s.size - 1)).toNat : Int) == 32)) (by simp only [size_put, hA1.size]; decide)
    generalize ((((((a1.put (some 147) (.string s)).put (some (147 + 1)) (.string s)).put (some (147 + 2)) (.int .i64 (s.size : Int))).put (some (147 + 3)) (.int .i64 ((s.size - 1 : Nat) : Int))).put (some (147 + 4)) (.int .u8 ((s.get! (s.size - 1)).toNat : Int))).put (some (147 + 5)) (.bool (((s.get! (s.size - 1)).toNat : Int) == 32))) = a2 at hA2 ef
    refine wp_cond ef ?_
    by_cases hc : (s.get! (s.size - 1)).toNat = 32
    · rw [if_pos (by simp [hc])]
      refine r_cutr1 (z := 0) (l := 0) (c := 0) (S := ⟨#[226, 144, 160]⟩) (by kernel_rfl) hA2.s1 hn hs0 (by rw [hA2.size]; decide) fun n => ?_
      refine H _ _ ?_ (hW.drewN n)
      rw [rstep, if_pos hon, if_pos hc]
      exact (((((hA2.put _ _ (by decide)).put _ _ (by decide)).put _ _ (by decide)).put _ _ (by decide)).put _ _ (by decide)).set
    · rw [if_neg (by simp; omega)]
      refine wp_seq (r_dec1 (y := 158) (z := 16) enters42 (decl_call hT hW s hn) hA2.s1 (by rw [hA2.size]; decide) fun w' hW' => ?_)
      show Code.wp _ _ _ _ _
      have hA3 := ((((((hA2.put (158 + 1) (.string s) (by decide)).put (158 + 2) (.tuple #[.int .i32 ((Lib.decodeLastL s.data.toList).1 : Int), .int .i64 ((Lib.decodeLastL s.data.toList).2 : Int)]) (by decide)).put 158 (.tuple #[.int .i32 ((Lib.decodeLastL s.data.toList).1 : Int), .int .i64 ((Lib.decodeLastL s.data.toList).2 : Int)]) (by decide)).put (158 + 3) (.int .i32 ((Lib.decodeLastL s.data.toList).1 : Int)) (by decide)).put (158 + 4) (.int .i64 ((Lib.decodeLastL s.data.toList).2 : Int)) (by decide)).put 16 (.int .i32 ((Lib.decodeLastL s.data.toList).1 : Int)) (by decide)).put (16 + 1) (.int .i64 ((Lib.decodeLastL s.data.toList).2 : Int)) (by decide)
      have er := eval_same ((((((a2.put (some (158 + 1)) (.string s)).put (some (158 + 2)) (.tuple #[.int .i32 ((Lib.decodeLastL s.data.toList).1 : Int), .int .i64 ((Lib.decodeLastL s.data.toList).2 : Int)])).put (some 158) (.tuple #[.int .i32 ((Lib.decodeLastL s.data.toList).1 : Int), .int .i64 ((Lib.decodeLastL s.data.toList).2 : Int)])).put (some (158 + 3)) (.int .i32 ((Lib.decodeLastL s.data.toList).1 : Int))).put (some (158 + 4)) (.int .i64 ((Lib.decodeLastL s.data.toList).2 : Int)))) 16 (.int .i32 ((Lib.decodeLastL s.data.toList).1 : Int)) (by simp only [size_put, hA2.size]; decide)
      have er' := (eval_other ((((((a2.put (some (158 + 1)) (.string s)).put (some (158 + 2)) (.tuple #[.int .i32 ((Lib.decodeLastL s.data.toList).1 : Int), .int .i64 ((Lib.decodeLastL s.data.toList).2 : Int)])).put (some 158) (.tuple #[.int .i32 ((Lib.decodeLastL s.data.toList).1 : Int), .int .i64 ((Lib.decodeLastL s.data.toList).2 : Int)])).put (some (158 + 3)) (.int .i32 ((Lib.decodeLastL s.data.toList).1 : Int))).put (some (158 + 4)) (.int .i64 ((Lib.decodeLastL s.data.toList).2 : Int))).put (some 16) (.int .i32 ((Lib.decodeLastL s.data.toList).1 : Int))) (16 + 1) 16 (.int .i64 ((Lib.decodeLastL s.data.toList).2 : Int)) (by decide)).trans er
      have el := eval_same ((((((a2.put (some (158 + 1)) (.string s)).put (some (158 + 2)) (.tuple #[.int .i32 ((Lib.decodeLastL s.data.toList).1 : Int), .int .i64 ((Lib.decodeLastL s.data.toList).2 : Int)])).put (some 158) (.tuple #[.int .i32 ((Lib.decodeLastL s.data.toList).1 : Int), .int .i64 ((Lib.decodeLastL s.data.toList).2 : Int)])).put (some (158 + 3)) (.int .i32 ((Lib.decodeLastL s.data.toList).1 : Int))).put (some (158 + 4)) (.int .i64 ((Lib.decodeLastL s.data.toList).2 : Int))).put (some 16) (.int .i32 ((Lib.decodeLastL s.data.toList).1 : Int))) (16 + 1) (.int .i64 ((Lib.decodeLastL s.data.toList).2 : Int)) (by simp only [size_put, hA2.size]; decide)
      generalize ((((((a2.put (some (158 + 1)) (.string s)).put (some (158 + 2)) (.tuple #[.int .i32 ((Lib.decodeLastL s.data.toList).1 : Int), .int .i64 ((Lib.decodeLastL s.data.toList).2 : Int)])).put (some 158) (.tuple #[.int .i32 ((Lib.decodeLastL s.data.toList).1 : Int), .int .i64 ((Lib.decodeLastL s.data.toList).2 : Int)])).put (some (158 + 3)) (.int .i32 ((Lib.decodeLastL s.data.toList).1 : Int))).put (some (158 + 4)) (.int .i64 ((Lib.decodeLastL s.data.toList).2 : Int))).put (some 16) (.int .i32 ((Lib.decodeLastL s.data.toList).1 : Int))).put (some (16 + 1)) (.int .i64 ((Lib.decodeLastL s.data.toList).2 : Int)) = a3 at hA3 er' el
      clear er
      refine wp_seq (r_isr er' (by rw [hA3.size]; decide) ?_)
      show Code.wp _ _ _ _ _
      have hA4 := (hA3.put 163 (.int .i32 ((Lib.decodeLastL s.data.toList).1 : Int)) (by decide)).put (163 + 1) (.bool (((Lib.decodeLastL s.data.toList).1 : Int) == 9248)) (by decide)
      have et := eval_same (a3.put (some 163) (.int .i32 ((Lib.decodeLastL s.data.toList).1 : Int))) (163 + 1) (.bool (((Lib.decodeLastL s.data.toList).1 : Int) == 9248)) (by simp only [size_put, hA3.size]; decide)
      have el2 : ((a3.put (some 163) (.int .i32 ((Lib.decodeLastL s.data.toList).1 : Int))).put (some (163 + 1)) (.bool (((Lib.decodeLastL s.data.toList).1 : Int) == 9248))).eval (.tmp (16 + 1)) = .int .i64 ((Lib.decodeLastL s.data.toList).2 : Int) := by
        rw [eval_other _ _ _ _ (by decide), eval_other _ _ _ _ (by decide)]; exact el
      generalize ((a3.put (some 163) (.int .i32 ((Lib.decodeLastL s.data.toList).1 : Int))).put (some (163 + 1)) (.bool (((Lib.decodeLastL s.data.toList).1 : Int) == 9248))) = a4 at hA4 et el2
      refine wp_cond et ?_
      by_cases hr : (Lib.decodeLastL s.data.toList).1 = 9248
      · rw [if_pos (by simp [hr])]
        refine r_cutrl (c := 0) (S := ⟨#[226, 128, 155, 226, 144, 160]⟩) (by kernel_rfl) hA4.s1 hn el2 (last_fit s) (by rw [hA4.size]; decide) fun n => ?_
        refine H _ _ ?_ (hW'.drewN n)
        rw [rstep, if_pos hon, if_neg hc, if_pos hr]
        exact ((((((hA4.put _ _ (by decide)).put _ _ (by decide)).put _ _ (by decide)).put _ _ (by decide)).put _ _ (by decide)).put _ _ (by decide)).set
      · rw [if_neg (by simp; omega)]
        exact wp_skip (H _ _ (by rw [rstep, if_pos hon, if_neg hc, if_neg hr]; exact hA4) hW')
set_option maxRecDepth 100000 in
set_option maxHeartbeats 1000000 in
theorem trail2 {Q : Exit → Act → World → Prop} {a : Act} {w0 w : World} {m : Int} {s pre suf : ByteArray} (hT : Lib.Utf8Tabs 0 1 w0) (hA : TC s pre suf ⟨w0.heap.size, 0, none⟩ a) (hW : WB w0 m w) (hs : suf.data.toList = [] → 0 < s.size) (hn : s.size ≤ 140737488355328)
    (H : ∀ a' w', TC (rstep m 4194304 46 65294 [239, 188, 142] (suf, s)).2 pre (rstep m 4194304 46 65294 [239, 188, 142] (suf, s)).1 ⟨w0.heap.size, 0, none⟩ a' → WB w0 m w' → Q .normal a' w') :
    (piece [1, 1, 1, 1, 1, 1, 1, 1, 1, 1, 0, 1, 0, 1, 0] (Tryd.f29.body.getD .skip)).wp Tryd.prog Q a w := by
  conv => arg 2; whnf
  refine wp_seq (r_hasg hA.s2 hW.cell hA.s15 (by rw [hA.size]; decide) fun a1 k1 z1 d1 ec => ?_)
  show Code.wp _ _ _ _ _
  have hA1 : TC s pre suf ⟨w0.heap.size, 0, none⟩ a1 := ⟨z1.trans hA.size, (k1 _ (by decide)).trans hA.s1, (k1 _ (by decide)).trans hA.s2, (k1 _ (by decide)).trans hA.s5, (k1 _ (by decide)).trans hA.s15, d1.trans hA.defers⟩
  refine wp_cond ec ?_
  cases hh : (hb m 4194304 && decide (suf.data.toList = [])) with
  | false =>
    rw [if_neg (by decide)]
    exact wp_skip (H _ _ (by rw [rstep, if_neg (by simpa using hh)]; exact hA1) hW)
  | true =>
    have hon : hb m 4194304 = true ∧ suf.data.toList = [] := by simpa using hh
    rw [if_pos rfl]
    have hs0 := hs hon.2
    refine wp_seq (r_last hA1.s1 hs0 hn (by rw [hA1.size]; decide) ?_)
    show Code.wp _ _ _ _ _
    have hA2 := (((((hA1.put 177 (.string s) (by decide)).put (177 + 1) (.string s) (by decide)).put (177 + 2) (.int .i64 (s.size : Int)) (by decide)).put (177 + 3) (.int .i64 ((s.size - 1 : Nat) : Int)) (by decide)).put (177 + 4) (.int .u8 ((s.get! (s.size - 1)).toNat : Int)) (by decide)).put (177 + 5) (.bool (((s.get! (s.size - 1)).toNat : Int) == 46)) (by decide)
    have ef := eval_same (((((a1.put (some 177) (.string s)).put (some (177 + 1)) (.string s)).put (some (177 + 2)) (.int .i64 (s.size : Int))).put (some (177 + 3)) (.int .i64 ((s.size - 1 : Nat) : Int))).put (some (177 + 4)) (.int .u8 ((s.get! (s.size - 1)).toNat : Int))) (177 + 5) (.bool (((s.get! (s.size - 1)).toNat : Int) == 46)) (by simp only [size_put, hA1.size]; decide)
    generalize ((((((a1.put (some 177) (.string s)).put (some (177 + 1)) (.string s)).put (some (177 + 2)) (.int .i64 (s.size : Int))).put (some (177 + 3)) (.int .i64 ((s.size - 1 : Nat) : Int))).put (some (177 + 4)) (.int .u8 ((s.get! (s.size - 1)).toNat : Int))).put (some (177 + 5)) (.bool (((s.get! (s.size - 1)).toNat : Int) == 46))) = a2 at hA2 ef
    refine wp_cond ef ?_
    by_cases hc : (s.get! (s.size - 1)).toNat = 46
    · rw [if_pos (by simp [hc])]
      refine r_cutr1 (z := 0) (l := 0) (c := 0) (S := ⟨#[239, 188, 142]⟩) (by kernel_rfl) hA2.s1 hn hs0 (by rw [hA2.size]; decide) fun n => ?_
      refine H _ _ ?_ (hW.drewN n)
      rw [rstep, if_pos hon, if_pos hc]
      exact (((((hA2.put _ _ (by decide)).put _ _ (by decide)).put _ _ (by decide)).put _ _ (by decide)).put _ _ (by decide)).set
    · rw [if_neg (by simp; omega)]
      refine wp_seq (r_dec1 (y := 188) (z := 18) enters42 (decl_call hT hW s hn) hA2.s1 (by rw [hA2.size]; decide) fun w' hW' => ?_)
      show Code.wp _ _ _ _ _
      have hA3 := ((((((hA2.put (188 + 1) (.string s) (by decide)).put (188 + 2) (.tuple #[.int .i32 ((Lib.decodeLastL s.data.toList).1 : Int), .int .i64 ((Lib.decodeLastL s.data.toList).2 : Int)]) (by decide)).put 188 (.tuple #[.int .i32 ((Lib.decodeLastL s.data.toList).1 : Int), .int .i64 ((Lib.decodeLastL s.data.toList).2 : Int)]) (by decide)).put (188 + 3) (.int .i32 ((Lib.decodeLastL s.data.toList).1 : Int)) (by decide)).put (188 + 4) (.int .i64 ((Lib.decodeLastL s.data.toList).2 : Int)) (by decide)).put 18 (.int .i32 ((Lib.decodeLastL s.data.toList).1 : Int)) (by decide)).put (18 + 1) (.int .i64 ((Lib.decodeLastL s.data.toList).2 : Int)) (by decide)
      have er := eval_same ((((((a2.put (some (188 + 1)) (.string s)).put (some (188 + 2)) (.tuple #[.int .i32 ((Lib.decodeLastL s.data.toList).1 : Int), .int .i64 ((Lib.decodeLastL s.data.toList).2 : Int)])).put (some 188) (.tuple #[.int .i32 ((Lib.decodeLastL s.data.toList).1 : Int), .int .i64 ((Lib.decodeLastL s.data.toList).2 : Int)])).put (some (188 + 3)) (.int .i32 ((Lib.decodeLastL s.data.toList).1 : Int))).put (some (188 + 4)) (.int .i64 ((Lib.decodeLastL s.data.toList).2 : Int)))) 18 (.int .i32 ((Lib.decodeLastL s.data.toList).1 : Int)) (by simp only [size_put, hA2.size]; decide)
      have er' := (eval_other ((((((a2.put (some (188 + 1)) (.string s)).put (some (188 + 2)) (.tuple #[.int .i32 ((Lib.decodeLastL s.data.toList).1 : Int), .int .i64 ((Lib.decodeLastL s.data.toList).2 : Int)])).put (some 188) (.tuple #[.int .i32 ((Lib.decodeLastL s.data.toList).1 : Int), .int .i64 ((Lib.decodeLastL s.data.toList).2 : Int)])).put (some (188 + 3)) (.int .i32 ((Lib.decodeLastL s.data.toList).1 : Int))).put (some (188 + 4)) (.int .i64 ((Lib.decodeLastL s.data.toList).2 : Int))).put (some 18) (.int .i32 ((Lib.decodeLastL s.data.toList).1 : Int))) (18 + 1) 18 (.int .i64 ((Lib.decodeLastL s.data.toList).2 : Int)) (by decide)).trans er
      have el := eval_same ((((((a2.put (some (188 + 1)) (.string s)).put (some (188 + 2)) (.tuple #[.int .i32 ((Lib.decodeLastL s.data.toList).1 : Int), .int .i64 ((Lib.decodeLastL s.data.toList).2 : Int)])).put (some 188) (.tuple #[.int .i32 ((Lib.decodeLastL s.data.toList).1 : Int), .int .i64 ((Lib.decodeLastL s.data.toList).2 : Int)])).put (some (188 + 3)) (.int .i32 ((Lib.decodeLastL s.data.toList).1 : Int))).put (some (188 + 4)) (.int .i64 ((Lib.decodeLastL s.data.toList).2 : Int))).put (some 18) (.int .i32 ((Lib.decodeLastL s.data.toList).1 : Int))) (18 + 1) (.int .i64 ((Lib.decodeLastL s.data.toList).2 : Int)) (by simp only [size_put, hA2.size]; decide)
      generalize ((((((a2.put (some (188 + 1)) (.string s)).put (some (188 + 2)) (.tuple #[.int .i32 ((Lib.decodeLastL s.data.toList).1 : Int), .int .i64 ((Lib.decodeLastL s.data.toList).2 : Int)])).put (some 188) (.tuple #[.int .i32 ((Lib.decodeLastL s.data.toList).1 : Int), .int .i64 ((Lib.decodeLastL s.data.toList).2 : Int)])).put (some (188 + 3)) (.int .i32 ((Lib.decodeLastL s.data.toList).1 : Int))).put (some (188 + 4)) (.int .i64 ((Lib.decodeLastL s.data.toList).2 : Int))).put (some 18) (.int .i32 ((Lib.decodeLastL s.data.toList).1 : Int))).put (some (18 + 1)) (.int .i64 ((Lib.decodeLastL s.data.toList).2 : Int)) = a3 at hA3 er' el
      clear er
      refine wp_seq (r_isr er' (by rw [hA3.size]; decide) ?_)
      show Code.wp _ _ _ _ _
      have hA4 := (hA3.put 193 (.int .i32 ((Lib.decodeLastL s.data.toList).1 : Int)) (by decide)).put (193 + 1) (.bool (((Lib.decodeLastL s.data.toList).1 : Int) == 65294)) (by decide)
      have et := eval_same (a3.put (some 193) (.int .i32 ((Lib.decodeLastL s.data.toList).1 : Int))) (193 + 1) (.bool (((Lib.decodeLastL s.data.toList).1 : Int) == 65294)) (by simp only [size_put, hA3.size]; decide)
      have el2 : ((a3.put (some 193) (.int .i32 ((Lib.decodeLastL s.data.toList).1 : Int))).put (some (193 + 1)) (.bool (((Lib.decodeLastL s.data.toList).1 : Int) == 65294))).eval (.tmp (18 + 1)) = .int .i64 ((Lib.decodeLastL s.data.toList).2 : Int) := by
        rw [eval_other _ _ _ _ (by decide), eval_other _ _ _ _ (by decide)]; exact el
      generalize ((a3.put (some 193) (.int .i32 ((Lib.decodeLastL s.data.toList).1 : Int))).put (some (193 + 1)) (.bool (((Lib.decodeLastL s.data.toList).1 : Int) == 65294))) = a4 at hA4 et el2
      refine wp_cond et ?_
      by_cases hr : (Lib.decodeLastL s.data.toList).1 = 65294
      · rw [if_pos (by simp [hr])]
        refine r_cutrl (c := 0) (S := ⟨#[226, 128, 155, 239, 188, 142]⟩) (by kernel_rfl) hA4.s1 hn el2 (last_fit s) (by rw [hA4.size]; decide) fun n => ?_
        refine H _ _ ?_ (hW'.drewN n)
        rw [rstep, if_pos hon, if_neg hc, if_pos hr]
        exact ((((((hA4.put _ _ (by decide)).put _ _ (by decide)).put _ _ (by decide)).put _ _ (by decide)).put _ _ (by decide)).put _ _ (by decide)).set
      · rw [if_neg (by simp; omega)]
        exact wp_skip (H _ _ (by rw [rstep, if_pos hon, if_neg hc, if_neg hr]; exact hA4) hW')
set_option maxRecDepth 100000 in
set_option maxHeartbeats 1000000 in
theorem trail3 {Q : Exit → Act → World → Prop} {a : Act} {w0 w : World} {m : Int} {s pre suf : ByteArray} (hT : Lib.Utf8Tabs 0 1 w0) (hA : TC s pre suf ⟨w0.heap.size, 0, none⟩ a) (hW : WB w0 m w) (hs : suf.data.toList = [] → 0 < s.size) (hn : s.size ≤ 140737488355328)
    (H : ∀ a' w', TC (rstep4 m (suf, s)).2 pre (rstep4 m (suf, s)).1 ⟨w0.heap.size, 0, none⟩ a' → WB w0 m w' → Q .normal a' w') :
    (piece [1, 1, 1, 1, 1, 1, 1, 1, 1, 1, 0, 1, 0, 1, 1] (Tryd.f29.body.getD .skip)).wp Tryd.prog Q a w := by
  conv => arg 2; whnf
  refine wp_seq (r_hasg hA.s2 hW.cell hA.s15 (by rw [hA.size]; decide) fun a1 k1 z1 d1 ec => ?_)
  show Code.wp _ _ _ _ _
  have hA1 : TC s pre suf ⟨w0.heap.size, 0, none⟩ a1 := ⟨z1.trans hA.size, (k1 _ (by decide)).trans hA.s1, (k1 _ (by decide)).trans hA.s2, (k1 _ (by decide)).trans hA.s5, (k1 _ (by decide)).trans hA.s15, d1.trans hA.defers⟩
  refine wp_cond ec ?_
  cases hh : (hb m 8388608 && decide (suf.data.toList = [])) with
  | false =>
    rw [if_neg (by decide)]
    exact wp_skip (H _ _ (by rw [rstep4, if_neg (by simpa using hh)]; exact hA1) hW)
  | true =>
    have hon : hb m 8388608 = true ∧ suf.data.toList = [] := by simpa using hh
    rw [if_pos rfl]
    have hs0 := hs hon.2
    refine wp_seq (r_lasta hA1.s1 hs0 hn (by rw [hA1.size]; decide) ?_)
    show Code.wp _ _ _ _ _
    have hA2 := (((((hA1.put 207 (.string s) (by decide)).put (207 + 1) (.string s) (by decide)).put (207 + 2) (.int .i64 (s.size : Int)) (by decide)).put (207 + 3) (.int .i64 ((s.size - 1 : Nat) : Int)) (by decide)).put (207 + 4) (.int .u8 ((s.get! (s.size - 1)).toNat : Int)) (by decide)).put 20 (.int .u8 ((s.get! (s.size - 1)).toNat : Int)) (by decide)
    have e12 := eval_same (((((a1.put (some 207) (.string s)).put (some (207 + 1)) (.string s)).put (some (207 + 2)) (.int .i64 (s.size : Int))).put (some (207 + 3)) (.int .i64 ((s.size - 1 : Nat) : Int))).put (some (207 + 4)) (.int .u8 ((s.get! (s.size - 1)).toNat : Int))) 20 (.int .u8 ((s.get! (s.size - 1)).toNat : Int)) (by simp only [size_put, hA1.size]; decide)
    generalize ((((((a1.put (some 207) (.string s)).put (some (207 + 1)) (.string s)).put (some (207 + 2)) (.int .i64 (s.size : Int))).put (some (207 + 3)) (.int .i64 ((s.size - 1 : Nat) : Int))).put (some (207 + 4)) (.int .u8 ((s.get! (s.size - 1)).toNat : Int))).put (some 20) (.int .u8 ((s.get! (s.size - 1)).toNat : Int))) = a2 at hA2 e12
    refine wp_seq (r_move ?_)
    show Code.wp _ _ _ _ _
    rw [e12]
    have hA3 := hA2.put 212 (.int .u8 ((s.get! (s.size - 1)).toNat : Int)) (by decide)
    have e3 := eval_same a2 212 (.int .u8 ((s.get! (s.size - 1)).toNat : Int)) (by rw [hA2.size]; decide)
    have e12' := (eval_other a2 212 20 (.int .u8 ((s.get! (s.size - 1)).toNat : Int)) (by decide)).trans e12
    generalize a2.put (some 212) (.int .u8 ((s.get! (s.size - 1)).toNat : Int)) = a3 at hA3 e3 e12'
    refine wp_block ?_
    refine wp_seq (r_or48 (lo := 212 + 1) (hi := 234 + 3) (by decide) (by rw [hA3.size]; decide) e3 fun a4 S4 t4 => ?_)
    show Code.wp _ _ _ _ _
    have hA4 : TC s pre suf ⟨w0.heap.size, 0, none⟩ a4 := ⟨S4.size.trans hA3.size, (S4.slot _ (by decide)).trans hA3.s1, (S4.slot _ (by decide)).trans hA3.s2, (S4.slot _ (by decide)).trans hA3.s5, (S4.slot _ (by decide)).trans hA3.s15, S4.defers.trans hA3.defers⟩
    have e4 := (S4.slot 20 (by decide)).trans e12'
    rw [ctl_byte] at t4
    refine wp_cond t4 ?_
    by_cases hc : isCtl (s.get! (s.size - 1)).toNat = true
    · rw [if_pos hc]
      obtain ⟨v1, v2, v3, v4⟩ := ctl_conv hc
      refine r_ctl5 (l := 0) (S := sgn (s.get! (s.size - 1)).toNat) (by kernel_rfl) hA4.s1 hn e4 v1 v2 v3 hs0 (by rw [hA4.size]; decide) fun n => ?_
      refine H _ _ ?_ (hW.drewN n)
      rw [rstep4, if_pos hon, if_pos hc]
      exact (((((((((hA4.put _ _ (by decide)).put _ _ (by decide)).put _ _ (by decide)).put _ _ (by decide)).put _ _ (by decide)).put _ _ (by decide)).put _ _ (by decide)).put _ _ (by decide)).put _ _ (by decide)).set
    · rw [if_neg hc]
      refine wp_seq (r_dec1 (y := 213) (z := 21) enters42 (decl_call hT hW s hn) hA4.s1 (by rw [hA4.size]; decide) fun w' hW' => ?_)
      show Code.wp _ _ _ _ _
      have hA5 := ((((((hA4.put (213 + 1) (.string s) (by decide)).put (213 + 2) (.tuple #[.int .i32 ((Lib.decodeLastL s.data.toList).1 : Int), .int .i64 ((Lib.decodeLastL s.data.toList).2 : Int)]) (by decide)).put 213 (.tuple #[.int .i32 ((Lib.decodeLastL s.data.toList).1 : Int), .int .i64 ((Lib.decodeLastL s.data.toList).2 : Int)]) (by decide)).put (213 + 3) (.int .i32 ((Lib.decodeLastL s.data.toList).1 : Int)) (by decide)).put (213 + 4) (.int .i64 ((Lib.decodeLastL s.data.toList).2 : Int)) (by decide)).put 21 (.int .i32 ((Lib.decodeLastL s.data.toList).1 : Int)) (by decide)).put (21 + 1) (.int .i64 ((Lib.decodeLastL s.data.toList).2 : Int)) (by decide)
      have er' := (eval_other ((((((a4.put (some (213 + 1)) (.string s)).put (some (213 + 2)) (.tuple #[.int .i32 ((Lib.decodeLastL s.data.toList).1 : Int), .int .i64 ((Lib.decodeLastL s.data.toList).2 : Int)])).put (some 213) (.tuple #[.int .i32 ((Lib.decodeLastL s.data.toList).1 : Int), .int .i64 ((Lib.decodeLastL s.data.toList).2 : Int)])).put (some (213 + 3)) (.int .i32 ((Lib.decodeLastL s.data.toList).1 : Int))).put (some (213 + 4)) (.int .i64 ((Lib.decodeLastL s.data.toList).2 : Int))).put (some 21) (.int .i32 ((Lib.decodeLastL s.data.toList).1 : Int))) (21 + 1) 21 (.int .i64 ((Lib.decodeLastL s.data.toList).2 : Int)) (by decide)).trans (eval_same (((((a4.put (some (213 + 1)) (.string s)).put (some (213 + 2)) (.tuple #[.int .i32 ((Lib.decodeLastL s.data.toList).1 : Int), .int .i64 ((Lib.decodeLastL s.data.toList).2 : Int)])).put (some 213) (.tuple #[.int .i32 ((Lib.decodeLastL s.data.toList).1 : Int), .int .i64 ((Lib.decodeLastL s.data.toList).2 : Int)])).put (some (213 + 3)) (.int .i32 ((Lib.decodeLastL s.data.toList).1 : Int))).put (some (213 + 4)) (.int .i64 ((Lib.decodeLastL s.data.toList).2 : Int))) 21 (.int .i32 ((Lib.decodeLastL s.data.toList).1 : Int)) (by simp only [size_put, hA4.size]; decide))
      have el := eval_same ((((((a4.put (some (213 + 1)) (.string s)).put (some (213 + 2)) (.tuple #[.int .i32 ((Lib.decodeLastL s.data.toList).1 : Int), .int .i64 ((Lib.decodeLastL s.data.toList).2 : Int)])).put (some 213) (.tuple #[.int .i32 ((Lib.decodeLastL s.data.toList).1 : Int), .int .i64 ((Lib.decodeLastL s.data.toList).2 : Int)])).put (some (213 + 3)) (.int .i32 ((Lib.decodeLastL s.data.toList).1 : Int))).put (some (213 + 4)) (.int .i64 ((Lib.decodeLastL s.data.toList).2 : Int))).put (some 21) (.int .i32 ((Lib.decodeLastL s.data.toList).1 : Int))) (21 + 1) (.int .i64 ((Lib.decodeLastL s.data.toList).2 : Int)) (by simp only [size_put, hA4.size]; decide)
      generalize ((((((a4.put (some (213 + 1)) (.string s)).put (some (213 + 2)) (.tuple #[.int .i32 ((Lib.decodeLastL s.data.toList).1 : Int), .int .i64 ((Lib.decodeLastL s.data.toList).2 : Int)])).put (some 213) (.tuple #[.int .i32 ((Lib.decodeLastL s.data.toList).1 : Int), .int .i64 ((Lib.decodeLastL s.data.toList).2 : Int)])).put (some (213 + 3)) (.int .i32 ((Lib.decodeLastL s.data.toList).1 : Int))).put (some (213 + 4)) (.int .i64 ((Lib.decodeLastL s.data.toList).2 : Int))).put (some 21) (.int .i32 ((Lib.decodeLastL s.data.toList).1 : Int))).put (some (21 + 1)) (.int .i64 ((Lib.decodeLastL s.data.toList).2 : Int)) = a5 at hA5 er' el
      refine wp_seq (r_move ?_)
      show Code.wp _ _ _ _ _
      rw [er']
      have hA6 := hA5.put 218 (.int .i32 ((Lib.decodeLastL s.data.toList).1 : Int)) (by decide)
      have e6 := eval_same a5 218 (.int .i32 ((Lib.decodeLastL s.data.toList).1 : Int)) (by rw [hA5.size]; decide)
      have er6 := (eval_other a5 218 21 (.int .i32 ((Lib.decodeLastL s.data.toList).1 : Int)) (by decide)).trans er'
      have el6 := (eval_other a5 218 (21 + 1) (.int .i32 ((Lib.decodeLastL s.data.toList).1 : Int)) (by decide)).trans el
      generalize a5.put (some 218) (.int .i32 ((Lib.decodeLastL s.data.toList).1 : Int)) = a6 at hA6 e6 er6 el6
      refine wp_block ?_
      refine wp_seq (r_or4 (lo := 218 + 1) (hi := 220 + 3) (by decide) (by rw [hA6.size]; decide) e6 fun a7 S7 t7 => ?_)
      show Code.wp _ _ _ _ _
      have hA7 : TC s pre suf ⟨w0.heap.size, 0, none⟩ a7 := ⟨S7.size.trans hA6.size, (S7.slot _ (by decide)).trans hA6.s1, (S7.slot _ (by decide)).trans hA6.s2, (S7.slot _ (by decide)).trans hA6.s5, (S7.slot _ (by decide)).trans hA6.s15, S7.defers.trans hA6.defers⟩
      have er7 := (S7.slot 21 (by decide)).trans er6
      have el7 := (S7.slot (21 + 1) (by decide)).trans el6
      rw [ctl_rune] at t7
      refine wp_cond t7 ?_
      by_cases hr : 9216 ≤ (Lib.decodeLastL s.data.toList).1 ∧ isCtl ((Lib.decodeLastL s.data.toList).1 - 9216) = true
      · rw [if_pos (by simpa using hr)]
        obtain ⟨v1, v2, v3, v4⟩ := ctl_conv hr.2
        have he : (9216 : Int) + (((Lib.decodeLastL s.data.toList).1 - 9216 : Nat) : Int) = ((Lib.decodeLastL s.data.toList).1 : Int) := by omega
        rw [he] at v3
        refine r_sgn5 (S := sgn ((Lib.decodeLastL s.data.toList).1 - 9216)) (by kernel_rfl) hA7.s1 hn er7 el7 v3 v4 (last_fit s) (by rw [hA7.size]; decide) fun n => ?_
        refine H _ _ ?_ (hW'.drewN n)
        rw [rstep4, if_pos hon, if_neg hc, if_pos hr]
        exact (((((((((hA7.put _ _ (by decide)).put _ _ (by decide)).put _ _ (by decide)).put _ _ (by decide)).put _ _ (by decide)).put _ _ (by decide)).put _ _ (by decide)).put _ _ (by decide)).put _ _ (by decide)).set
      · rw [if_neg (by simpa using hr)]
        exact wp_skip (H _ _ (by rw [rstep4, if_pos hon, if_neg hc, if_neg hr]; exact hA7) hW')
end Go.Proofs.YtlgoghonnnobfaaDoor.Enc
namespace Go.Proofs.YtlgoghonnnobfaaDoor.Enc
open Go Go.RowKit Go.Proofs.YtlgoghonnnobfaaDoor.Fr
set_option linter.unusedVariables false
set_option linter.unusedSimpArgs false
/-! ### the whole encoder -/
def heads (m : Int) (s : ByteArray) : ByteArray × ByteArray :=
  lstep4 m (lstep m 524288 126 65374 [239, 189, 158] (lstep m 262144 46 65294 [239, 188, 142] (lstep m 131072 32 9248 [226, 144, 160] (⟨#[]⟩, s))))
def tails (m : Int) (s : ByteArray) : ByteArray × ByteArray :=
  rstep4 m (rstep m 4194304 46 65294 [239, 188, 142] (rstep m 2097152 32 9248 [226, 144, 160] (⟨#[]⟩, s)))
def tailsIf (m : Int) (s : ByteArray) : ByteArray × ByteArray := if s.data.toList = [] then (⟨#[]⟩, s) else tails m s
def encodeT (m : Int) (s : ByteArray) : ByteArray := ⟨(bodyL m (heads m s).1 (tailsIf m (heads m s).2).1 (tailsIf m (heads m s).2).2).toArray⟩
def encode (m : Int) (s : ByteArray) : ByteArray :=
  if m = 1 then s else if s.data.toList = [] then ⟨#[]⟩
  else if hb m 33554432 = true ∧ s.data.toList = [46] then ⟨#[239, 188, 142]⟩
  else if hb m 33554432 = true ∧ s.data.toList = [46, 46] then ⟨#[239, 188, 142, 239, 188, 142]⟩
  else if hb m 33554432 = true ∧ s.data.toList = [239, 188, 142] then ⟨#[226, 128, 155, 239, 188, 142]⟩
  else if hb m 33554432 = true ∧ s.data.toList = [239, 188, 142, 239, 188, 142] then ⟨#[226, 128, 155, 239, 188, 142, 226, 128, 155, 239, 188, 142]⟩
  else encodeT m s
/-- A head (or tail), or else a text; no longer than they may be. -/
structure Ok (n : Nat) (p : ByteArray × ByteArray) : Prop where
  pos : p.1.data.toList = [] → 0 < p.2.size
  le : p.2.size ≤ n
  short : p.1.size ≤ 100
theorem Ok.lstep {n : Nat} {p : ByteArray × ByteArray} (h : Ok n p) (m f : Int) (c R : Nat) (S : List UInt8) (hS : S ≠ []) (hl : S.length ≤ 10) : Ok n (lstep m f c R S p) := by
  unfold Enc.lstep
  split
  · split
    · exact ⟨fun e => absurd e (by simpa using hS), by have := h.le; simp [ByteArray.size_extract]; omega, by show S.toArray.size ≤ 100; simp; omega⟩
    · split
      · exact ⟨fun e => absurd e (by simp), by have := h.le; simp [ByteArray.size_extract]; omega, by show (226 :: 128 :: 155 :: S).toArray.size ≤ 100; simp; omega⟩
      · exact h
  · exact h
theorem sgn_ne (c : Nat) : (sgn c).data.toList ≠ [] := by simp [sgn]
theorem app_len (c : Nat) : (⟨#[226, 128, 155]⟩ ++ sgn c : ByteArray).size = 6 := by rw [ByteArray.size_append]; rfl
theorem app_ne (c : Nat) : (⟨#[226, 128, 155]⟩ ++ sgn c : ByteArray).data.toList ≠ [] := by
  intro h
  have h1 := app_len c
  have h2 : (⟨#[226, 128, 155]⟩ ++ sgn c : ByteArray).data.toList.length = (⟨#[226, 128, 155]⟩ ++ sgn c : ByteArray).size := rfl
  rw [h, h1] at h2
  cases h2
theorem Ok.lstep4 {n : Nat} {p : ByteArray × ByteArray} (h : Ok n p) (m : Int) : Ok n (lstep4 m p) := by
  unfold Enc.lstep4
  split
  · split
    · exact ⟨fun e => absurd e (sgn_ne _), by have := h.le; simp [ByteArray.size_extract]; omega, (by decide : 3 ≤ 100)⟩
    · split
      · exact ⟨fun e => absurd e (app_ne _), by have := h.le; simp [ByteArray.size_extract]; omega, by show (⟨#[226, 128, 155]⟩ ++ sgn _ : ByteArray).size ≤ 100; rw [app_len]; decide⟩
      · exact h
  · exact h
theorem Ok.rstep {n : Nat} {p : ByteArray × ByteArray} (h : Ok n p) (m f : Int) (c R : Nat) (S : List UInt8) (hS : S ≠ []) (hl : S.length ≤ 10) : Ok n (rstep m f c R S p) := by
  unfold Enc.rstep
  split
  · split
    · exact ⟨fun e => absurd e (by simpa using hS), by have := h.le; simp [ByteArray.size_extract]; omega, by show S.toArray.size ≤ 100; simp; omega⟩
    · split
      · exact ⟨fun e => absurd e (by simp), by have := h.le; simp [ByteArray.size_extract]; omega, by show (226 :: 128 :: 155 :: S).toArray.size ≤ 100; simp; omega⟩
      · exact h
  · exact h
theorem Ok.rstep4 {n : Nat} {p : ByteArray × ByteArray} (h : Ok n p) (m : Int) : Ok n (rstep4 m p) := by
  unfold Enc.rstep4
  split
  · split
    · exact ⟨fun e => absurd e (sgn_ne _), by have := h.le; simp [ByteArray.size_extract]; omega, (by decide : 3 ≤ 100)⟩
    · split
      · exact ⟨fun e => absurd e (app_ne _), by have := h.le; simp [ByteArray.size_extract]; omega, by show (⟨#[226, 128, 155]⟩ ++ sgn _ : ByteArray).size ≤ 100; rw [app_len]; decide⟩
      · exact h
  · exact h
set_option maxRecDepth 100000 in
set_option maxHeartbeats 2000000 in
/-- From the tail of the text on. -/
theorem from_tail {R : Ending → World → Prop} {a : Act} {w0 w : World} {m : Int} {s pre : ByteArray} (hT : Lib.Utf8Tabs 0 1 w0) (hA : HC s pre ⟨w0.heap.size, 0, none⟩ a) (hW : WB w0 m w) (hok : Ok 400000 (pre, s))
    (H : ∀ w', Below w0.heap.size w0 w' → R (.returned (.string ⟨(bodyL m pre (tailsIf m s).1 (tailsIf m s).2).toArray⟩)) w') :
    (piece [1, 1, 1, 1, 1, 1, 1, 1, 1] (Tryd.f29.body.getD .skip)).wp Tryd.prog (bodyPost Tryd.prog Tryd.f29 R) a w := by
  have hle : s.size ≤ 400000 := hok.le
  have hsh : pre.size ≤ 100 := hok.short
  have hl0 : s.data.toList.length = s.size := rfl
  have hp0 : pre.data.toList.length = pre.size := rfl
  have te : (⟨#[]⟩ : ByteArray).toList = [] := by rw [Lib.toList_data]
  conv => arg 2; whnf
  refine wp_seq (wp_region_lit (assign ?_))
  refine wpList_nil ?_
  rw [eval_const]
  show Code.wp _ _ _ _ _
  have hA1 : TC s pre ⟨#[]⟩ ⟨w0.heap.size, 0, none⟩ (a.put (some 15) (.string ⟨#[]⟩)) := ⟨by rw [size_put]; exact hA.size, (eval_other _ _ _ _ (by decide)).trans hA.s1, (eval_other _ _ _ _ (by decide)).trans hA.s2, (eval_other _ _ _ _ (by decide)).trans hA.s5, eval_same _ _ _ (by rw [hA.size]; decide), (defers_put _ _ _).trans hA.defers⟩
  generalize a.put (some 15) (.string ⟨#[]⟩) = a1 at hA1
  clear hA
  have fin : ∀ (a2 : Act) (w2 : World) (s2 suf2 : ByteArray), TC s2 pre suf2 ⟨w0.heap.size, 0, none⟩ a2 → WB w0 m w2 → s2.size ≤ 400000 → suf2.size ≤ 100 → 1 ≤ s2.size + pre.size + suf2.size → (tailsIf m s) = (suf2, s2) →
      (piece [1, 1, 1, 1, 1, 1, 1, 1, 1, 1, 1] (Tryd.f29.body.getD .skip)).wp Tryd.prog (bodyPost Tryd.prog Tryd.f29 R) a2 w2 := by
    intro a2 w2 s2 suf2 h2 hW2 g1 g2 g3 g4
    refine idx_walk (s := s2) (pre := pre) (suf := suf2) (m := m) hT h2.size h2.s1 h2.s2 h2.s5 h2.s15 h2.defers hW2.box hW2.below (by omega) (by omega) (by omega) g3 ?_
    intro w' hb'
    have := H w' hb'
    rw [g4] at this
    exact this
  refine wp_seq ?_
  refine wp_seq ?_
  refine wp_region_lit ?_
  refine Fr.move ?_
  rw [hA1.s1]
  refine Fr.step rfl (run_neqs (s1 := s) (s2 := ⟨#[]⟩) Tryd.underlying9 (eval_same _ _ _ (by rw [hA1.size]; decide)) rfl) ?_
  rw [te]
  refine wpList_nil ?_
  show Code.wp _ _ _ _ _
  have hA2 := (hA1.put 143 (.string s) (by decide)).put 144 (.bool (s.toList != [])) (by decide)
  have e2 := eval_same (a1.put (some 143) (.string s)) 144 (.bool (s.toList != [])) (by rw [size_put, hA1.size]; decide)
  generalize (a1.put (some 143) (.string s)).put (some 144) (.bool (s.toList != [])) = a2 at hA2 e2
  refine wp_cond e2 ?_
  by_cases hs : s.data.toList = []
  · rw [if_neg (by rw [Lib.toList_data]; simp [hs])]
    refine wp_skip ?_
    refine fin _ _ s ⟨#[]⟩ hA2 hW hle (by decide) ?_ (by rw [tailsIf, if_pos hs])
    have := hok.pos
    simp only at this
    rw [hs] at hl0
    simp at hl0
    by_cases hp : pre.data.toList = []
    · have := this hp; omega
    · have : 0 < pre.data.toList.length := List.length_pos_iff.2 hp
      omega
  · rw [if_pos (by rw [Lib.toList_data]; simpa using hs)]
    have hpos : 0 < s.size := by have := List.length_pos_iff.2 hs; omega
    have ok0 : Ok 400000 ((⟨#[]⟩ : ByteArray), s) := ⟨fun _ => hpos, hle, (by decide : 0 ≤ 100)⟩
    have ok1 := ok0.rstep m 2097152 32 9248 [226, 144, 160] (by simp) (by decide)
    have ok2 := ok1.rstep m 4194304 46 65294 [239, 188, 142] (by simp) (by decide)
    have ok3 := ok2.rstep4 m
    refine wp_seq ?_
    refine trail1 hT hA2 hW (fun _ => hpos) (by omega) rfl fun a3 w3 hA3 hW3 => ?_
    show Code.wp _ _ _ _ _
    refine wp_seq ?_
    refine trail2 (suf := (rstep m 2097152 32 9248 [226, 144, 160] (⟨#[]⟩, s)).1) hT hA3 hW3 ok1.pos (Nat.le_trans ok1.le (by decide)) fun a4 w4 hA4 hW4 => ?_
    show Code.wp _ _ _ _ _
    refine trail3 (suf := (rstep m 4194304 46 65294 [239, 188, 142] (rstep m 2097152 32 9248 [226, 144, 160] (⟨#[]⟩, s))).1) hT hA4 hW4 ok2.pos (Nat.le_trans ok2.le (by decide)) fun a5 w5 hA5 hW5 => ?_
    refine fin _ _ _ _ hA5 hW5 ok3.le ok3.short ?_ (by rw [tailsIf, if_neg hs]; rfl)
    show 1 ≤ (rstep4 m (rstep m 4194304 46 65294 [239, 188, 142] (rstep m 2097152 32 9248 [226, 144, 160] (⟨#[]⟩, s)))).2.size + pre.size + (rstep4 m (rstep m 4194304 46 65294 [239, 188, 142] (rstep m 2097152 32 9248 [226, 144, 160] (⟨#[]⟩, s)))).1.size
    by_cases hp : (rstep4 m (rstep m 4194304 46 65294 [239, 188, 142] (rstep m 2097152 32 9248 [226, 144, 160] (⟨#[]⟩, s)))).1.data.toList = []
    · have h9 := ok3.pos hp
      omega
    · have h9 : 0 < (rstep4 m (rstep m 4194304 46 65294 [239, 188, 142] (rstep m 2097152 32 9248 [226, 144, 160] (⟨#[]⟩, s)))).1.size := List.length_pos_iff.2 hp
      omega
end Go.Proofs.YtlgoghonnnobfaaDoor.Enc
namespace Go.Proofs.YtlgoghonnnobfaaDoor.Enc
open Go Go.RowKit Go.Proofs.YtlgoghonnnobfaaDoor.Fr
set_option linter.unusedVariables false
set_option linter.unusedSimpArgs false
set_option maxRecDepth 100000 in
set_option maxHeartbeats 2000000 in
/-- From the head of the text on. -/
theorem from_head {R : Ending → World → Prop} {a : Act} {w0 w : World} {m : Int} {s : ByteArray} (hT : Lib.Utf8Tabs 0 1 w0) (hz : a.tmps.size = 602) (h1 : a.eval (.tmp 1) = .string s) (h2 : a.eval (.tmp 2) = .pointer (some ⟨w0.heap.size, 0, none⟩)) (hd : a.defers = []) (hW : WB w0 m w) (hs : s.data.toList ≠ []) (hle : s.size ≤ 400000)
    (H : ∀ w', Below w0.heap.size w0 w' → R (.returned (.string (encodeT m s))) w') :
    (piece [1, 1, 1, 1] (Tryd.f29.body.getD .skip)).wp Tryd.prog (bodyPost Tryd.prog Tryd.f29 R) a w := by
  have hpos : 0 < s.size := List.length_pos_iff.2 hs
  conv => arg 2; whnf
  refine wp_seq (wp_region_lit (assign ?_))
  refine wpList_nil ?_
  rw [eval_const]
  show Code.wp _ _ _ _ _
  have hA : HC s ⟨#[]⟩ ⟨w0.heap.size, 0, none⟩ (a.put (some 5) (.string ⟨#[]⟩)) := ⟨by rw [size_put]; exact hz, (eval_other _ _ _ _ (by decide)).trans h1, (eval_other _ _ _ _ (by decide)).trans h2, eval_same _ _ _ (by rw [hz]; decide), (defers_put _ _ _).trans hd⟩
  generalize a.put (some 5) (.string ⟨#[]⟩) = a1 at hA
  have ok0 : Ok 400000 ((⟨#[]⟩ : ByteArray), s) := ⟨fun _ => hpos, hle, (by decide : 0 ≤ 100)⟩
  have ok1 := ok0.lstep m 131072 32 9248 [226, 144, 160] (by simp) (by decide)
  have ok2 := ok1.lstep m 262144 46 65294 [239, 188, 142] (by simp) (by decide)
  have ok3 := ok2.lstep m 524288 126 65374 [239, 189, 158] (by simp) (by decide)
  have ok4 := ok3.lstep4 m
  refine wp_seq ?_
  refine lead1 hT hA hW (fun _ => hpos) rfl fun a2 w2 hA2 hW2 => ?_
  show Code.wp _ _ _ _ _
  refine wp_seq ?_
  refine lead2 (pre := (lstep m 131072 32 9248 [226, 144, 160] (⟨#[]⟩, s)).1) hT hA2 hW2 ok1.pos fun a3 w3 hA3 hW3 => ?_
  show Code.wp _ _ _ _ _
  refine wp_seq ?_
  refine lead3 (pre := (lstep m 262144 46 65294 [239, 188, 142] (lstep m 131072 32 9248 [226, 144, 160] (⟨#[]⟩, s))).1) hT hA3 hW3 ok2.pos fun a4 w4 hA4 hW4 => ?_
  show Code.wp _ _ _ _ _
  refine wp_seq ?_
  refine lead4 (pre := (lstep m 524288 126 65374 [239, 189, 158] (lstep m 262144 46 65294 [239, 188, 142] (lstep m 131072 32 9248 [226, 144, 160] (⟨#[]⟩, s)))).1) hT hA4 hW4 ok3.pos fun a5 w5 hA5 hW5 => ?_
  show Code.wp _ _ _ _ _
  refine from_tail (s := (heads m s).2) (pre := (heads m s).1) (m := m) hT hA5 hW5 ok4 ?_
  exact H
/-- A text is compared, and a text is returned if it is that. -/
theorem r_eqs {Q : Exit → Act → World → Prop} {a : Act} {w : World} {s c : ByteArray} {id x t : Nat} {p0 p1 : String} {f0 f1 : Array Edge} (h1 : a.eval (.tmp x) = .string s) (ht : t + 1 < a.tmps.size)
    (H : Q .normal ((a.put (some (t + 1)) (.bool (s.toList == c.toList))).put (some t) (.bool (s.toList == c.toList))) w) :
    (Code.region id #[{ dst := some (t + 1), op := .binOp .eql 9 (.tmp x) (.const (.string c)) 9, type := 4, pos := p0, after := f0, guard := none }, { dst := some t, op := .assign (.tmp (t + 1)), type := 4, pos := p1, after := f1, guard := none }] false).wp Tryd.prog Q a w := by
  refine wp_region_lit ?_
  refine Fr.step rfl (run_eqls (s1 := s) (s2 := c) Tryd.underlying9 h1 rfl) ?_
  refine assign ?_
  rw [eval_same _ _ _ ht]
  exact wpList_nil H
theorem r_give {R : Ending → World → Prop} {a : Act} {w : World} {c : ByteArray} {id : Nat} {p : String} {f : Array Edge} (hz : a.tmps.size = 602) (hd : a.defers = []) (H : R (.returned (.string c)) w) :
    ((Code.region id #[{ dst := some 4, op := .assign (.const (.string c)), type := 9, pos := p, after := f, guard := none }] false).seq Code.ret).wp Tryd.prog (bodyPost Tryd.prog Tryd.f29 R) a w := by
  refine wp_seq (wp_region_lit (assign ?_))
  refine wpList_nil ?_
  show Code.wp _ _ _ _ _
  refine wp_ret ?_
  rw [eval_const]
  exact ret29 (by rw [defers_put]; exact hd) (eval_same _ _ _ (by rw [hz]; decide)) H
theorem r_giveb {R : Ending → World → Prop} {b : Nat} {a : Act} {w : World} {c : ByteArray} {id : Nat} {p : String} {f : Array Edge} {K : Act → World → Prop} (hz : a.tmps.size = 602) (hd : a.defers = []) (H : R (.returned (.string c)) w) :
    ((Code.region id #[{ dst := some 4, op := .assign (.const (.string c)), type := 9, pos := p, after := f, guard := none }] false).seq Code.ret).wp Tryd.prog (Exit.inBlock b (Exit.then K (bodyPost Tryd.prog Tryd.f29 R))) a w := by
  refine wp_seq (wp_region_lit (assign ?_))
  refine wpList_nil ?_
  show Code.wp _ _ _ _ _
  refine wp_ret ?_
  rw [eval_const]
  show bodyPost Tryd.prog Tryd.f29 R .ret _ _
  exact ret29 (by rw [defers_put]; exact hd) (eval_same _ _ _ (by rw [hz]; decide)) H
structure DC (s : ByteArray) (pm : Addr) (a : Act) : Prop where
  size : a.tmps.size = 602
  s1 : a.eval (.tmp 1) = .string s
  s2 : a.eval (.tmp 2) = .pointer (some pm)
  defers : a.defers = []
theorem DC.put {s : ByteArray} {pm : Addr} {a : Act} (h : DC s pm a) (d : Nat) (v : Value) (h1 : 2 < d) : DC s pm (a.put (some d) v) :=
  ⟨(size_put _ _ _).trans h.size, (eval_other _ _ _ _ (by omega)).trans h.s1, (eval_other _ _ _ _ (by omega)).trans h.s2, (defers_put _ _ _).trans h.defers⟩
set_option maxRecDepth 100000 in
set_option maxHeartbeats 2000000 in
/-- MultiEncoder.Encode. -/
theorem encode_any (m : Int) (s : ByteArray) (w0 : World) (hT : Lib.Utf8Tabs 0 1 w0) (hle : s.size ≤ 400000) :
    Calls Tryd.prog 29 #[.int .u64 m, .string s] w0 fun e w' => e = .returned (.string (encode m s)) ∧ Below w0.heap.size w0 w' := by
  refine calls_of_wp Tryd.func29 rfl ?_
  have hz : (⟨#[Value.int .u64 m, .string s] ++ Array.replicate (Tryd.f29.ntmps - (#[Value.int .u64 m, .string s] : Array Value).size) undef, []⟩ : Act).tmps.size = 602 := by
    have h : Tryd.f29.ntmps = 602 := by kernel_rfl
    simp [h]
  have e0 : (⟨#[Value.int .u64 m, .string s] ++ Array.replicate (Tryd.f29.ntmps - (#[Value.int .u64 m, .string s] : Array Value).size) undef, []⟩ : Act).eval (.tmp 0) = .int .u64 m := by
    simp [Act.eval, Array.getElem?_append]
  have e1 : (⟨#[Value.int .u64 m, .string s] ++ Array.replicate (Tryd.f29.ntmps - (#[Value.int .u64 m, .string s] : Array Value).size) undef, []⟩ : Act).eval (.tmp 1) = .string s := by
    simp [Act.eval, Array.getElem?_append]
  have hd : (⟨#[Value.int .u64 m, .string s] ++ Array.replicate (Tryd.f29.ntmps - (#[Value.int .u64 m, .string s] : Array Value).size) undef, []⟩ : Act).defers = [] := rfl
  generalize (⟨#[Value.int .u64 m, .string s] ++ Array.replicate (Tryd.f29.ntmps - (#[Value.int .u64 m, .string s] : Array Value).size) undef, []⟩ : Act) = a at hz e0 e1 hd
  have hb1 : Below w0.heap.size w0 (w0.alloc (.cells #[.int .u64 m] 39)) := (Below.refl _ w0).alloc (Nat.le_refl _) _
  have hW : WB w0 m (w0.alloc (.cells #[.int .u64 m] 39)) := ⟨heap_alloc_new w0 _, hb1⟩
  have te : (⟨#[]⟩ : ByteArray).toList = [] := by rw [Lib.toList_data]
  refine wp_seq ?_
  refine wp_region_lit ?_
  refine Fr.step rfl (run_box Tryd.underlying39 e0) ?_
  refine assign ?_
  refine wpList_nil ?_
  rw [eval_const]
  show Code.wp _ _ _ _ _
  have hA : DC s ⟨w0.heap.size, 0, none⟩ ((a.put (some 2) (.pointer (some ⟨w0.heap.size, 0, none⟩))).put (some 4) (.string ⟨#[]⟩)) := ⟨by simp only [size_put]; exact hz, by rw [eval_other _ _ _ _ (by decide), eval_other _ _ _ _ (by decide)]; exact e1, by rw [eval_other _ _ _ _ (by decide)]; exact eval_same _ _ _ (by rw [hz]; decide), by simp only [defers_put]; exact hd⟩
  generalize (a.put (some 2) (.pointer (some ⟨w0.heap.size, 0, none⟩))).put (some 4) (.string ⟨#[]⟩) = a1 at hA
  generalize w0.alloc (.cells #[.int .u64 m] 39) = w at hW
  clear hb1 hz e0 e1 hd a
  -- the mask that is Raw alone
  refine wp_seq ?_
  refine wp_seq ?_
  refine wp_region_lit ?_
  refine Fr.load Tryd.underlying39 hA.s2 hW.cell ?_
  refine Fr.step rfl (run_eqli (m := m) (n := 1) Tryd.underlying39 (eval_same _ _ _ (by rw [hA.size]; decide)) rfl) ?_
  refine wpList_nil ?_
  show Code.wp _ _ _ _ _
  have hA2 := (hA.put 31 (.int .u64 m) (by decide)).put 32 (.bool (m == 1)) (by decide)
  have t2 := eval_same (a1.put (some 31) (.int .u64 m)) 32 (.bool (m == 1)) (by rw [size_put, hA.size]; decide)
  generalize (a1.put (some 31) (.int .u64 m)).put (some 32) (.bool (m == 1)) = a2 at hA2 t2
  refine wp_cond t2 ?_
  by_cases c1 : m = 1
  · rw [if_pos (by simpa using c1)]
    refine wp_seq (wp_region_lit (Fr.move ?_))
    rw [hA2.s1]
    refine assign ?_
    refine wpList_nil ?_
    rw [eval_same _ _ _ (by rw [hA2.size]; decide)]
    show Code.wp _ _ _ _ _
    refine wp_ret ?_
    show bodyPost Tryd.prog Tryd.f29 (fun e w' => e = .returned (.string (encode m s)) ∧ Below w0.heap.size w0 w') .ret _ _
    exact ret29 (by simp only [defers_put]; exact hA2.defers) (eval_same _ _ _ (by rw [size_put, hA2.size]; decide)) ⟨by rw [encode, if_pos c1], hW.below⟩
  rw [if_neg (by simpa using c1)]
  refine wp_skip ?_
  show Code.wp _ _ _ _ _
  -- no text
  refine wp_seq ?_
  refine wp_seq ?_
  refine wp_region_lit ?_
  refine Fr.move ?_
  rw [hA2.s1]
  refine Fr.step rfl (run_eqls (s1 := s) (s2 := ⟨#[]⟩) Tryd.underlying9 (eval_same _ _ _ (by rw [hA2.size]; decide)) rfl) ?_
  rw [te]
  refine wpList_nil ?_
  show Code.wp _ _ _ _ _
  have hA3 := (hA2.put 34 (.string s) (by decide)).put 35 (.bool (s.toList == [])) (by decide)
  have t3 := eval_same (a2.put (some 34) (.string s)) 35 (.bool (s.toList == [])) (by rw [size_put, hA2.size]; decide)
  generalize (a2.put (some 34) (.string s)).put (some 35) (.bool (s.toList == [])) = a3 at hA3 t3
  refine wp_cond t3 ?_
  by_cases c2 : s.data.toList = []
  · rw [if_pos (by rw [Lib.toList_data]; simp [c2])]
    refine wp_seq (wp_region_lit (assign ?_))
    refine wpList_nil ?_
    rw [eval_const]
    show Code.wp _ _ _ _ _
    refine wp_ret ?_
    show bodyPost Tryd.prog Tryd.f29 (fun e w' => e = .returned (.string (encode m s)) ∧ Below w0.heap.size w0 w') .ret _ _
    exact ret29 (by simp only [defers_put]; exact hA3.defers) (eval_same _ _ _ (by rw [hA3.size]; decide)) ⟨by rw [encode, if_neg c1, if_pos c2], hW.below⟩
  rw [if_neg (by rw [Lib.toList_data]; simpa using c2)]
  refine wp_skip ?_
  show Code.wp _ _ _ _ _
  -- the names of points
  refine wp_seq ?_
  refine wp_seq (r_has (by rw [hA3.size]; decide) hA3.s2 hW.cell ?_)
  show Code.wp _ _ _ _ _
  have hA4 := (hA3.put 36 (.int .u64 m) (by decide)).put (36 + 1) (.bool (hb m 33554432)) (by decide)
  have t4 := eval_same (a3.put (some 36) (.int .u64 m)) (36 + 1) (.bool (hb m 33554432)) (by rw [size_put, hA3.size]; decide)
  generalize (a3.put (some 36) (.int .u64 m)).put (some (36 + 1)) (.bool (hb m 33554432)) = a4 at hA4 t4
  refine wp_cond t4 ?_
  have rest : ∀ b : Act, DC s ⟨w0.heap.size, 0, none⟩ b → encode m s = encodeT m s → (piece [1, 1, 1, 1] (Tryd.f29.body.getD .skip)).wp Tryd.prog (bodyPost Tryd.prog Tryd.f29 (fun e w' => e = .returned (.string (encode m s)) ∧ Below w0.heap.size w0 w')) b w := fun b hB he =>
    from_head hT hB.size hB.s1 hB.s2 hB.defers hW c2 hle fun w' hb' => ⟨by rw [he], hb'⟩
  cases hh : hb m 33554432 with
  | false =>
    rw [if_neg (by decide)]
    exact wp_skip (rest _ hA4 (by rw [encode, if_neg c1, if_neg c2, if_neg (by simp [hh]), if_neg (by simp [hh]), if_neg (by simp [hh]), if_neg (by simp [hh])]))
  | true =>
    rw [if_pos rfl]
    refine wp_seq (r_move ?_)
    show Code.wp _ _ _ _ _
    rw [hA4.s1]
    have hA5 := hA4.put 38 (.string s) (by decide)
    have e38 := eval_same a4 38 (.string s) (by rw [hA4.size]; decide)
    generalize a4.put (some 38) (.string s) = a5 at hA5 e38
    refine wp_block ?_
    have test : ∀ (b : Act) (t : Nat) (c : ByteArray), DC s ⟨w0.heap.size, 0, none⟩ b → b.eval (.tmp 38) = .string s → 38 < t → t + 1 < 602 → DC s ⟨w0.heap.size, 0, none⟩ ((b.put (some (t + 1)) (.bool (s.toList == c.toList))).put (some t) (.bool (s.toList == c.toList))) ∧ ((b.put (some (t + 1)) (.bool (s.toList == c.toList))).put (some t) (.bool (s.toList == c.toList))).eval (.tmp 38) = .string s ∧ ((b.put (some (t + 1)) (.bool (s.toList == c.toList))).put (some t) (.bool (s.toList == c.toList))).eval (.tmp t) = .bool (s.toList == c.toList) := by
      intro b t c hB hb' h1 h2
      exact ⟨(hB.put _ _ (by omega)).put _ _ (by omega), by rw [eval_other _ _ _ _ (by omega), eval_other _ _ _ _ (by omega)]; exact hb', eval_same _ _ _ (by rw [size_put, hB.size]; omega)⟩
    have cmp : ∀ l : List UInt8, (s.toList == (⟨l.toArray⟩ : ByteArray).toList) = decide (s.data.toList = l) := by
      intro l
      rw [Lib.toList_data, Lib.toList_data, Bool.eq_iff_iff]
      simp
    obtain ⟨i1, i2, i3⟩ := test a5 39 ⟨#[46]⟩ hA5 e38 (by decide) (by decide)
    refine wp_seq (r_eqs e38 (by rw [hA5.size]; decide) ?_)
    show Code.wp _ _ _ _ _
    generalize (a5.put (some (39 + 1)) (.bool (s.toList == (⟨#[46]⟩ : ByteArray).toList))).put (some 39) (.bool (s.toList == (⟨#[46]⟩ : ByteArray).toList)) = a6 at i1 i2 i3
    refine wp_cond i3 ?_
    have q1 := cmp [46]
    by_cases d1 : s.data.toList = [46]
    · rw [if_pos (by rw [show (⟨#[46]⟩ : ByteArray) = ⟨([46] : List UInt8).toArray⟩ from rfl, q1]; simp [d1])]
      exact r_giveb i1.size i1.defers ⟨by rw [encode, if_neg c1, if_neg c2, if_pos ⟨hh, d1⟩], hW.below⟩
    rw [if_neg (by rw [show (⟨#[46]⟩ : ByteArray) = ⟨([46] : List UInt8).toArray⟩ from rfl, q1]; simp [d1])]
    obtain ⟨j1, j2, j3⟩ := test a6 41 ⟨#[46, 46]⟩ i1 i2 (by decide) (by decide)
    refine wp_seq (r_eqs i2 (by rw [i1.size]; decide) ?_)
    show Code.wp _ _ _ _ _
    generalize (a6.put (some (41 + 1)) (.bool (s.toList == (⟨#[46, 46]⟩ : ByteArray).toList))).put (some 41) (.bool (s.toList == (⟨#[46, 46]⟩ : ByteArray).toList)) = a7 at j1 j2 j3
    refine wp_cond j3 ?_
    have q2 := cmp [46, 46]
    by_cases d2 : s.data.toList = [46, 46]
    · rw [if_pos (by rw [show (⟨#[46, 46]⟩ : ByteArray) = ⟨([46, 46] : List UInt8).toArray⟩ from rfl, q2]; simp [d2])]
      exact r_giveb j1.size j1.defers ⟨by rw [encode, if_neg c1, if_neg c2, if_neg (fun h => d1 h.2), if_pos ⟨hh, d2⟩], hW.below⟩
    rw [if_neg (by rw [show (⟨#[46, 46]⟩ : ByteArray) = ⟨([46, 46] : List UInt8).toArray⟩ from rfl, q2]; simp [d2])]
    obtain ⟨l1, l2, l3⟩ := test a7 43 ⟨#[239, 188, 142]⟩ j1 j2 (by decide) (by decide)
    refine wp_seq (r_eqs j2 (by rw [j1.size]; decide) ?_)
    show Code.wp _ _ _ _ _
    generalize (a7.put (some (43 + 1)) (.bool (s.toList == (⟨#[239, 188, 142]⟩ : ByteArray).toList))).put (some 43) (.bool (s.toList == (⟨#[239, 188, 142]⟩ : ByteArray).toList)) = a8 at l1 l2 l3
    refine wp_cond l3 ?_
    have q3 := cmp [239, 188, 142]
    by_cases d3 : s.data.toList = [239, 188, 142]
    · rw [if_pos (by rw [show (⟨#[239, 188, 142]⟩ : ByteArray) = ⟨([239, 188, 142] : List UInt8).toArray⟩ from rfl, q3]; simp [d3])]
      exact r_giveb l1.size l1.defers ⟨by rw [encode, if_neg c1, if_neg c2, if_neg (fun h => d1 h.2), if_neg (fun h => d2 h.2), if_pos ⟨hh, d3⟩], hW.below⟩
    rw [if_neg (by rw [show (⟨#[239, 188, 142]⟩ : ByteArray) = ⟨([239, 188, 142] : List UInt8).toArray⟩ from rfl, q3]; simp [d3])]
    obtain ⟨n1, n2, n3⟩ := test a8 45 ⟨#[239, 188, 142, 239, 188, 142]⟩ l1 l2 (by decide) (by decide)
    refine wp_seq (r_eqs l2 (by rw [l1.size]; decide) ?_)
    show Code.wp _ _ _ _ _
    generalize (a8.put (some (45 + 1)) (.bool (s.toList == (⟨#[239, 188, 142, 239, 188, 142]⟩ : ByteArray).toList))).put (some 45) (.bool (s.toList == (⟨#[239, 188, 142, 239, 188, 142]⟩ : ByteArray).toList)) = a9 at n1 n2 n3
    refine wp_cond n3 ?_
    have q4 := cmp [239, 188, 142, 239, 188, 142]
    by_cases d4 : s.data.toList = [239, 188, 142, 239, 188, 142]
    · rw [if_pos (by rw [show (⟨#[239, 188, 142, 239, 188, 142]⟩ : ByteArray) = ⟨([239, 188, 142, 239, 188, 142] : List UInt8).toArray⟩ from rfl, q4]; simp [d4])]
      exact r_giveb n1.size n1.defers ⟨by rw [encode, if_neg c1, if_neg c2, if_neg (fun h => d1 h.2), if_neg (fun h => d2 h.2), if_neg (fun h => d3 h.2), if_pos ⟨hh, d4⟩], hW.below⟩
    rw [if_neg (by rw [show (⟨#[239, 188, 142, 239, 188, 142]⟩ : ByteArray) = ⟨([239, 188, 142, 239, 188, 142] : List UInt8).toArray⟩ from rfl, q4]; simp [d4])]
    refine wp_skip ?_
    exact rest _ n1 (by rw [encode, if_neg c1, if_neg c2, if_neg (fun h => d1 h.2), if_neg (fun h => d2 h.2), if_neg (fun h => d3 h.2), if_neg (fun h => d4 h.2)])
end Go.Proofs.YtlgoghonnnobfaaDoor.Enc
