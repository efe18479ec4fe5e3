import Derived.Test.YtfegihmnpcjdgaaRang10
import Derived.Test.YtfegihmnpcjdgaaWLast
namespace Go.Proofs.Ytfegihmnpcjdgaa.Rang
open Go.RowKit Go.Proofs.YtfegihmnpcjdgaaW.PrintWords Go.Proofs.YtfegihmnpcjdgaaW.PrintMore Go.Proofs.YtfegihmnpcjdgaaW.PrintLast
set_option linter.unusedVariables false
/-- What is left of a range that is to end at a place. -/
def clip (p : Int × Int) (t : Int) : Int × Int :=
  if en p ≤ t then p else if wrap64 (p.2 - wrap64 (en p - t)) < 0 then (0, 0) else (p.1, wrap64 (p.2 - wrap64 (en p - t)))

set_option maxHeartbeats 4000000 in
theorem clip_at (g : Nat) (p q t : Int) (w : World) (h : Blk g #[.int .i64 p, .int .i64 q] w) :
    Calls Try.prog 47 #[.pointer (some ⟨g, 0, none⟩), .int .i64 t] w fun e w' => e = .returned (.tuple #[]) ∧ Only g w w' ∧ Blk g #[.int .i64 (clip (p, q) t).1, .int .i64 (clip (p, q) t).2] w' := by
  have H := Lib.hid h
  obtain ⟨k0, k1, f0, f1⟩ := two_cells h
  have l0 := h.lt
  clear h
  by_cases c1 : wrap64 (p + q) ≤ t
  · have b1 : decide (wrap64 (p + q) ≤ t) = true := decide_eq_true c1
    have e : clip (p, q) t = (p, q) := if_pos c1
    rw [e]
    have HE := Lib.hid c1
    clear c1 e
    go_enter Try.func47, Try.ntmps47
    go_wp2_with (go_at_call 49; ((with_reducible refine (end_is _ _ _).mono ?_); rintro e w1 ⟨rfl, hb1⟩))
    refine bodyPost_ret (results_none rfl _ _ _) rfl ?_
    exact ⟨rfl, Only.of_below hb1, blk_down H.out hb1⟩
  · have b1 : decide (wrap64 (p + q) ≤ t) = false := decide_eq_false c1
    generalize hs : wrap64 (q - wrap64 (wrap64 (p + q) - t)) = s
    have HS := Lib.hid hs
    have e : clip (p, q) t = if s < 0 then (0, 0) else (p, s) := by
      unfold clip en
      rw [if_neg c1, hs]
    have HE := Lib.hid e
    clear c1 e hs
    go_enter Try.func47, Try.ntmps47
    go_upto_region 1 with (go_at_call 49; ((with_reducible refine (end_is _ _ _).mono ?_); rintro e w1 ⟨rfl, hb1⟩; have H1 := Lib.hid (blk_down H.out hb1); have HB1 := Lib.hid (Only.of_below (g := g) hb1); clear hb1 k0 k1 f0 f1 l0; obtain ⟨k0, k1, f0, f1⟩ := two_cells H1.out; have l0 := H1.out.lt))
    go_cut [] (fun wc => Only g w wc ∧ Blk g #[.int .i64 p, .int .i64 s] wc)
    case first =>
      go_region_with (go_at_call 49; ((with_reducible refine (end_is _ _ _).mono ?_); rintro e w2 ⟨rfl, hb2⟩; have q0 := (hb2.cell (p := ⟨g, 0, none⟩) l0).trans k0; have q1 := (hb2.cell (p := ⟨g, 1, none⟩) l0).trans k1; have r1 := (hb2.frozen (p := ⟨g, 1, none⟩) l0).trans f1))
      all_goals go_wp2
      all_goals go_meet
      all_goals (case rel =>
        rw [← HS.out]
        exact ⟨((HB1.out.drew).trans (Only.of_below hb2)).set _ _, blk_put (blk_down (w := w1.drew) H1.out hb2) 1 _ (by simp only [i64_w]; rfl)⟩)
    case rest =>
      obtain ⟨hO, hB⟩ := hcut
      have HO := Lib.hid hO
      have H2 := Lib.hid hB
      clear k0 k1 f0 f1 l0 H1 HB1 hO hB
      obtain ⟨k0, k1, f0, f1⟩ := two_cells H2.out
      by_cases c2 : s < 0
      · have b2 : decide (s < 0) = true := decide_eq_true c2
        go_wp2
        go_end0
        rw [HE.out, if_pos c2]
        exact ⟨rfl, (HO.out.set _ _).set _ _, blk_two H2.out⟩
      · have b2 : decide (s < 0) = false := decide_eq_false c2
        go_wp2
        go_end0
        rw [HE.out, if_neg (by omega)]
        exact ⟨rfl, HO.out, H2.out⟩
theorem told_is (a b : Int) (w : World) : Calls Try.prog 45 #[.agg #[.int .i64 a, .int .i64 b]] w fun e w' => e = .returned (.agg #[.int .i64 a, .int .i64 b]) ∧ Below w.heap.size w w' := by
  go_enter Try.func45, Try.ntmps45
  go_wp2
  refine bodyPost_ret (v := .agg #[.int .i64 a, .int .i64 b]) (by simp [results, Try.results45, go_sem]) rfl ⟨rfl, ?_⟩
  repeat (first | exact Below.refl _ _ | refine Below.setCell ?_ (by simp) _ | refine Below.alloc ?_ (by simp) _ | refine Below.drew ?_)
theorem below_only {B g : Nat} {w0 w w' : World} (hb : Below B w0 w) (h : Only g w w') (hg : B ≤ g) (hB : B ≤ w.heap.size) : Below B w0 w' := Below.only hb h hg hB
theorem pair_cells {b t : Nat} {x y : Value} {w : World} (h : w.heap[b]? = some (.cells #[x, y] t (0, 0))) : w.cell? ⟨b, 0, none⟩ = some x ∧ w.cell? ⟨b, 1, none⟩ = some y ∧ w.frozen? ⟨b, 0, none⟩ = false ∧ w.frozen? ⟨b, 1, none⟩ = false := by
  refine ⟨?_, ?_, ?_, ?_⟩ <;> simp [World.cell?, World.frozen?, h]
theorem pair_down {b t : Nat} {o : Array Value} {w w1 : World} (h : w.heap[b]? = some (.cells o t (0, 0))) (hb : Below w.heap.size w w1) : w1.heap[b]? = some (.cells o t (0, 0)) := (hb.block b (Array.getElem?_eq_some_iff.1 h).1).trans h
set_option maxHeartbeats 4000000 in
/-- RangeClip. -/
theorem rangeClip_is (a b t : Int) (w : World) : Calls Try.prog 25 #[.agg #[.int .i64 a, .int .i64 b], .int .i64 t] w fun e w' => e = .returned (.agg #[.int .i64 (clip (a, b) t).1, .int .i64 (clip (a, b) t).2]) ∧ Below w.heap.size w w' := by
  have hcl : ∀ w' : World, Blk w'.heap.size #[.int .i64 a, .int .i64 b] (w'.alloc (.cells #[.int .i64 a, .int .i64 b] 61)) := fun w' => heap_alloc_new _ _
  have HCL := Lib.hid hcl
  have h4 : ((w.alloc (.cells #[.int .i64 a, .int .i64 b] 28)).alloc (.cells #[.int .i64 0, .int .i64 0] 28)).heap[w.heap.size + 1]? = some (.cells #[.int .i64 0, .int .i64 0] 28 (0, 0)) := by
    have h := heap_alloc_new (w.alloc (.cells #[.int .i64 a, .int .i64 b] 28)) (.cells #[.int .i64 0, .int .i64 0] 28)
    rw [alloc_size] at h; exact h
  have H4 := Lib.hid h4
  clear hcl h4
  go_enter Try.func25, Try.ntmps25
  go_wp2_with (first
    | (go_at_call 41; (with_reducible refine (given_is _ _ _).mono ?_); rintro e w1 ⟨rfl, hb1⟩; have hz := hb1.size; simp at hz; have HB1 := Lib.hid ((((Below.refl _ _).alloc (Nat.le_refl _) _).alloc (by simp) _).trans (hb1.mono (by simp; omega)) : Below w.heap.size w w1); have H41 := Lib.hid (pair_down H4.out hb1); have HCA := Lib.hid (clip_at w1.heap.size a b t _ (HCL.out w1)); clear hb1)
    | (go_at_call 47; (with_reducible refine (HCA.out).mono ?_); rintro e w2 ⟨rfl, ho, hb2⟩; have hz2 := ho.size; simp at hz2; have HB2 := Lib.hid (Below.only (HB1.out.alloc (by omega) (.cells #[.int .i64 a, .int .i64 b] 61)) ho (by omega) (by simp; omega)); have H42 := Lib.hid ((ho.block (w.heap.size + 1) (by simp; omega) (by omega)).trans (blk_alloc H41.out _)); have H52 := Lib.hid hb2; obtain ⟨k50, k51, f50, f51⟩ := two_cells hb2; clear ho hb2)
    | (go_at_call 45; (with_reducible refine (told_is _ _ _).mono ?_); rintro e w3 ⟨rfl, hb3⟩; have HB3 := Lib.hid (HB2.out.trans (hb3.mono (by omega))); obtain ⟨k40, k41, f40, f41⟩ := pair_cells (pair_down H42.out hb3); clear hb3 k50 k51 f50 f51))
  refine bodyPost_ret (v := .agg #[.int .i64 (clip (a, b) t).1, .int .i64 (clip (a, b) t).2]) (by simp [results, Try.results25, go_sem, k40, k41]) rfl ⟨rfl, ?_⟩
  exact (HB3.out.setCell (p := ⟨w.heap.size + 1, 0, none⟩) (by simp) _).setCell (p := ⟨w.heap.size + 1, 1, none⟩) (by simp) _
end Go.Proofs.Ytfegihmnpcjdgaa.Rang
