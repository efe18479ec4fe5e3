import Derived.Test.YtbennnoddflggaaDoorPFnBucketApartx2
import Derived.Test.YtbennnoddflggaaDoorPlain
namespace Go.Proofs.YtbennnoddflggaaDoor.Buck
open Go.RowKit Go.Proofs.YtbennnoddflggaaDoor.PFnBucketApart Go.Proofs.YtbennnoddflggaaDoorW.PrintWords Go.Proofs.YtbennnoddflggaaDoorW.PrintLast Go.Proofs.YtbennnoddflggaaDoor.Plain
set_option linter.unusedVariables false
/-! ### the checks ahead -/
theorem fits_some (l : List S28) (hn : l.length ≤ 9223372036854775807) : ∃ k r, laws_zzFits1.f k l = some r := by
  by_cases c1 : (l.length : Int) > 2147483647
  · exact ⟨0, false, by unfold laws_zzFits1.f; rw [if_pos c1]⟩
  suffices h : ∀ d i : Nat, l.length - i = d → i ≤ l.length → ∃ r, Ev (fun k => laws_zzFits1.l0 k l (l.length : Int) (i : Int)) r by
    obtain ⟨r, k, hk⟩ := h l.length 0 (by omega) (by omega)
    exact ⟨k, r, by unfold laws_zzFits1.f; rw [if_neg c1]; exact hk k (Nat.le_refl _)⟩
  intro d
  induction d with
  | zero =>
    intro i hd hi
    refine ⟨true, ?_⟩
    refine Ev.step (fun _ => laws_zzFits1.l0.eq_2 ..) ?_
    exact Ev.if_neg (by omega) (Ev.now _)
  | succ d ih =>
    intro i hd hi
    obtain ⟨r, hr⟩ := ih (i + 1) (by omega) (by omega)
    by_cases c : (((rd_T28 l (i : Int)).f1).size : Int) > 2147483647
    · refine ⟨false, ?_⟩
      refine Ev.step (fun _ => laws_zzFits1.l0.eq_2 ..) ?_
      refine Ev.if_pos (by omega) ?_
      refine Ev.if_pos (by omega) ?_
      refine Ev.if_pos (by omega) ?_
      refine Ev.bindc (x := false) (by unfold laws_zzFits2.f; rw [if_pos c]) ?_
      exact Ev.if_neg (by simp) (Ev.now _)
    · refine ⟨r, ?_⟩
      refine Ev.step (fun _ => laws_zzFits1.l0.eq_2 ..) ?_
      refine Ev.if_pos (by omega) ?_
      refine Ev.if_pos (by omega) ?_
      refine Ev.if_pos (by omega) ?_
      refine Ev.bindc (x := true) (by unfold laws_zzFits2.f; rw [if_neg c]) ?_
      refine Ev.if_pos rfl ?_
      rw [wrap64_of (x := (i : Int) + 1) (by omega) (by omega), show (i : Int) + 1 = ((i + 1 : Nat) : Int) by omega]
      exact hr
theorem in_some (l : List S28) (hn : l.length ≤ 9223372036854775807) : ∃ k r, laws_bucketIn.f k l = some r ∧ (r = true → l.length ≤ 60 ∧ ∀ x ∈ l, x.f1.size ≤ 100) := by
  suffices h : ∀ d i : Nat, l.length - i = d → i ≤ l.length → ∃ r, Ev (fun k => laws_bucketIn.l0 k l l (l.length : Int) (i : Int)) r ∧ (r = true → l.length ≤ 60 ∧ ∀ x ∈ l.drop i, x.f1.size ≤ 100) by
    obtain ⟨r, ⟨k, hk⟩, h2⟩ := h l.length 0 (by omega) (by omega)
    exact ⟨k, r, hk k (Nat.le_refl _), by simpa using h2⟩
  intro d
  induction d with
  | zero =>
    intro i hd hi
    refine ⟨_, Ev.step (fun _ => laws_bucketIn.l0.eq_2 ..) (Ev.if_neg (by omega) (Ev.now _)), fun h => ?_⟩
    refine ⟨by have := of_decide_eq_true h; omega, fun x hx => ?_⟩
    rw [List.drop_eq_nil_of_le (by omega)] at hx
    cases hx
  | succ d ih =>
    intro i hd hi
    obtain ⟨r, hr, h2⟩ := ih (i + 1) (by omega) (by omega)
    have hlt : i < l.length := by omega
    have hrd : rd_T28 l (i : Int) = l[i] := by simp [rd_T28, hlt]
    have head : ∀ {r : Bool}, Ev (fun k => if (rd_T28 l (i : Int)).f0 < 0 then (some false) else (if (rd_T28 l (i : Int)).f0 > 4 then (some false) else (if ((rd_T28 l (i : Int)).f1.size : Int) > 100 then (some false) else (laws_bucketIn.l0 k l l (l.length : Int) (wrap64 ((i : Int) + 1)))))) r → Ev (fun k => laws_bucketIn.l0 k l l (l.length : Int) (i : Int)) r := fun hk =>
      Ev.step (fun _ => laws_bucketIn.l0.eq_2 ..) (Ev.if_pos (by omega) (Ev.if_pos (by omega) (Ev.if_pos (by omega) hk)))
    by_cases c1 : (rd_T28 l (i : Int)).f0 < 0
    · exact ⟨false, head (Ev.if_pos c1 (Ev.now _)), fun h => by cases h⟩
    by_cases c2 : (rd_T28 l (i : Int)).f0 > 4
    · exact ⟨false, head (Ev.if_neg c1 (Ev.if_pos c2 (Ev.now _))), fun h => by cases h⟩
    by_cases c3 : ((rd_T28 l (i : Int)).f1.size : Int) > 100
    · exact ⟨false, head (Ev.if_neg c1 (Ev.if_neg c2 (Ev.if_pos c3 (Ev.now _)))), fun h => by cases h⟩
    refine ⟨r, head (Ev.if_neg c1 (Ev.if_neg c2 (Ev.if_neg c3 ?_))), fun h => ⟨(h2 h).1, fun x hx => ?_⟩⟩
    · rw [wrap64_of (x := (i : Int) + 1) (by omega) (by omega), show (i : Int) + 1 = ((i + 1 : Nat) : Int) by omega]
      exact hr
    · rw [List.drop_eq_getElem_cons hlt] at hx
      rcases List.mem_cons.1 hx with rfl | hx
      · rw [hrd] at c3; omega
      · exact (h2 h).2 x hx
theorem same_refl (l : List S30) (hn : l.length ≤ 9223372036854775807) : ∃ k, laws_bucketSame.f k l l = some true := by
  suffices h : ∀ d i : Nat, l.length - i = d → i ≤ l.length → Ev (fun k => laws_bucketSame.l0 k l l (l.length : Int) (i : Int)) true by
    obtain ⟨k, hk⟩ := h l.length 0 (by omega) (by omega)
    exact ⟨k, by unfold laws_bucketSame.f; rw [if_pos rfl]; exact hk k (Nat.le_refl _)⟩
  intro d
  induction d with
  | zero =>
    intro i hd hi
    exact Ev.step (fun _ => laws_bucketSame.l0.eq_2 ..) (Ev.if_neg (by omega) (Ev.now _))
  | succ d ih =>
    intro i hd hi
    refine Ev.step (fun _ => laws_bucketSame.l0.eq_2 ..) (Ev.if_pos (by omega) (Ev.if_pos (by omega) (Ev.if_pos (by omega) (Ev.if_pos (by omega) (Ev.if_neg (by simp) ?_)))))
    rw [wrap64_of (x := (i : Int) + 1) (by omega) (by omega), show (i : Int) + 1 = ((i + 1 : Nat) : Int) by omega]
    exact ih (i + 1) (by omega) (by omega)
theorem awake : laws_bucketAwake.f = some true := by
  unfold laws_bucketAwake.f impl_BucketSteps.f
  rw [if_pos (by decide +kernel)]
  decide +kernel

/-! ### of one bucket: made, removed, made .. -/
theorem ans_name (s : Step) : True := trivial
/-- What steps over one bucket, of which nothing is asked, do: a function is called just if the step is not the last one's that went through. -/
theorem once_step (f : St) (s : Step) (last : Int) (hnm : s.name.toList ≠ ([] : List UInt8)) (ha : s.asks = false) (hd : s.act = 3 ∨ s.act = 4)
    (hf : (f s.name = none ∧ last = -1) ∨ (f s.name = some true ∧ last = 3) ∨ (f s.name = some false ∧ last = 4)) :
    (step f s).2.2.1 = (s.act != last) ∧
    (((step f s).1 s.name = none ∧ (if ((s.act != last) && s.good) = true then s.act else last) = -1) ∨ ((step f s).1 s.name = some true ∧ (if ((s.act != last) && s.good) = true then s.act else last) = 3) ∨ ((step f s).1 s.name = some false ∧ (if ((s.act != last) && s.good) = true then s.act else last) = 4)) := by
  obtain ⟨act, nm, good, asks, fd, fl⟩ := s
  simp only at *
  subst ha
  rcases hd with rfl | rfl <;> rcases hf with ⟨h1, rfl⟩ | ⟨h1, rfl⟩ | ⟨h1, rfl⟩ <;> cases good <;> simp [step, create, remove, make, no, hnm, h1, upd, errOf]
/-! ### steps over several buckets -/
theorem step_other (f : St) (s : Step) (nm : ByteArray) (h : s.name ≠ nm) : (step f s).1 nm = f nm := by
  have h' : nm ≠ s.name := fun e => h e.symm
  have hu : ∀ (g : St) b, upd g s.name b nm = g nm := fun g b => if_neg h'
  unfold step mark create remove make
  repeat' (first | split | (simp [hu]; done) | rfl)
theorem upd_at (f : St) (s : ByteArray) (b : Bool) : upd f s b s = some b := if_pos rfl
theorem make_own {f g : St} {s : Step} (q : Bool) (h : f s.name = g s.name) : (make f s q).2 = (make g s q).2 ∧ (make f s q).1 s.name = (make g s q).1 s.name := by
  refine ⟨rfl, ?_⟩
  unfold make
  cases s.good
  · exact h
  · simp [upd_at]
theorem create_own {f g : St} {s : Step} (h : f s.name = g s.name) : (create f s).2 = (create g s).2 ∧ (create f s).1 s.name = (create g s).1 s.name := by
  unfold create
  by_cases he : s.name.toList = ([] : List UInt8)
  · rw [if_pos he, if_pos he]; exact ⟨rfl, h⟩
  rw [if_neg he, if_neg he, ← h]
  rcases hf : f s.name with _ | _ | _
  · exact make_own false h
  · simp only
    by_cases ha : s.asks = false
    · rw [if_pos ha, if_pos ha]; exact make_own false h
    rw [if_neg ha, if_neg ha]
    by_cases hl : s.fails = true
    · rw [if_pos hl, if_pos hl]; exact ⟨rfl, h⟩
    rw [if_neg hl, if_neg hl]
    by_cases hd : s.found = true
    · rw [if_pos hd, if_pos hd]; exact ⟨rfl, by simp [upd_at]⟩
    rw [if_neg hd, if_neg hd]
    exact make_own true (by simp [upd_at])
  · exact ⟨rfl, h⟩
theorem remove_own {f g : St} {s : Step} (h : f s.name = g s.name) : (remove f s).2 = (remove g s).2 ∧ (remove f s).1 s.name = (remove g s).1 s.name := by
  unfold remove
  by_cases he : s.name.toList = ([] : List UInt8)
  · rw [if_pos he, if_pos he]; exact ⟨rfl, h⟩
  rw [if_neg he, if_neg he]
  by_cases hf : f s.name = some false
  · rw [if_pos hf, if_pos (h ▸ hf)]; exact ⟨rfl, h⟩
  rw [if_neg hf, if_neg (fun e => hf (h.trans e))]
  refine ⟨rfl, ?_⟩
  cases s.good
  · exact h
  · simp [upd_at]
theorem mark_own {f g : St} {s : Step} (b : Bool) (h : f s.name = g s.name) : (mark f s b) s.name = (mark g s b) s.name := by
  unfold mark
  by_cases he : s.name.toList = ([] : List UInt8)
  · rw [if_pos he, if_pos he]; exact h
  · rw [if_neg he, if_neg he]; simp [upd_at]
theorem step_own (f g : St) (s : Step) (h : f s.name = g s.name) : (step f s).2 = (step g s).2 ∧ (step f s).1 s.name = (step g s).1 s.name := by
  unfold step
  by_cases h0 : s.act = 0
  · rw [if_pos h0, if_pos h0]; exact ⟨rfl, mark_own true h⟩
  rw [if_neg h0, if_neg h0]
  by_cases h1 : s.act = 1
  · rw [if_pos h1, if_pos h1]; exact ⟨rfl, mark_own false h⟩
  rw [if_neg h1, if_neg h1]
  by_cases h2 : s.act = 2
  · rw [if_pos h2, if_pos h2, h]; exact ⟨rfl, h⟩
  rw [if_neg h2, if_neg h2]
  by_cases h3 : s.act = 3
  · rw [if_pos h3, if_pos h3]; exact create_own h
  rw [if_neg h3, if_neg h3]
  by_cases h4 : s.act = 4
  · rw [if_pos h4, if_pos h4]; exact remove_own h
  rw [if_neg h4, if_neg h4]; exact ⟨rfl, h⟩
/-- The steps over one bucket, and what they answered among all. -/
theorem apart (nm : ByteArray) : ∀ (l : List Step) (f g : St), f nm = g nm → steps g (l.filter fun s => decide (s.name = nm)) = ((l.zip (steps f l)).filter fun p => decide (p.1.name = nm)).map (·.2)
  | [], f, g, h => rfl
  | s :: l, f, g, h => by
    by_cases e : s.name = nm
    · subst e
      obtain ⟨h1, h2⟩ := step_own f g s h
      simp only [steps, List.filter_cons, List.zip_cons_cons, decide_true, if_true, List.map_cons]
      rw [apart s.name l (step f s).1 (step g s).1 h2, h1]
    · simp only [steps, List.filter_cons, List.zip_cons_cons, e, decide_false, Bool.false_eq_true, if_false]
      exact apart nm l (step f s).1 g ((step_other f s nm e).trans h)
end Go.Proofs.YtbennnoddflggaaDoor.Buck
