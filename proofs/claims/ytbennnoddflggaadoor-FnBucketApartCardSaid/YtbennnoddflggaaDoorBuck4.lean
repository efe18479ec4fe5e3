import Derived.Test.YtbennnoddflggaaDoorBuck3
import Derived.Deep.DeepCutAuto
import Derived.Deep.CutBlock
namespace Go.Proofs.YtbennnoddflggaaDoor.Buck
open Go.RowKit Go.Proofs.YtbennnoddflggaaDoorW.PrintWords Go.Proofs.YtbennnoddflggaaDoorW.PrintMore Go.Proofs.YtbennnoddflggaaDoorW.PrintLast
set_option linter.unusedVariables false
set_option linter.unusedSimpArgs false
/-- The state behind k steps. -/
def stAt (f : St) : List Step → St
  | [] => f
  | s :: l => stAt (step f s).1 l
theorem steps_snoc : ∀ (l : List Step) (f : St) (s : Step), steps f (l ++ [s]) = steps f l ++ [(step (stAt f l) s).2] ∧ stAt f (l ++ [s]) = (step (stAt f l) s).1
  | [], f, s => ⟨rfl, rfl⟩
  | a :: l, f, s => by
    obtain ⟨h1, h2⟩ := steps_snoc l (step f a).1 s
    exact ⟨by simp only [List.cons_append, steps, h1, stAt], by simp only [List.cons_append, stAt, h2]⟩
theorem steps_len : ∀ (l : List Step) (f : St), (steps f l).length = l.length
  | [], f => rfl
  | s :: l, f => by simp [steps, steps_len l]
theorem info49 : ∃ i, Tryd.prog.info? 49 = some i ∧ i.comparable = true := by
  have h : (Tryd.prog.info? 49).map (·.comparable) = some true := by kernel_rfl
  exact Option.map_eq_some_iff.1 h
theorem info51 : ∃ j, Tryd.prog.info? 51 = some j ∧ j.size ≠ 0 := by
  have h : (Tryd.prog.info? 51).map (·.size) = some 1 := by kernel_rfl
  obtain ⟨j, h1, h2⟩ := Option.map_eq_some_iff.1 h
  exact ⟨j, h1, by rw [h2]; decide⟩
theorem eql_same (w : World) (a : Nat) : (binOp .eql 37 (errAt a) (errAt a)).run Tryd.prog w = .ok (.bool true) w := by
  obtain ⟨i, h1, h2⟩ := info49
  obtain ⟨j, h3, h4⟩ := info51
  exact run_eql_iface_ptr_same w ⟨a, 0, none⟩ Tryd.underlying37 Tryd.underlying49 h1 h2 h3
theorem eql_other {w : World} {a b : Nat} (ha : Err w a) (hb : Err w b) (hne : a ≠ b) : (binOp .eql 37 (errAt a) (errAt b)).run Tryd.prog w = .ok (.bool false) w := by
  obtain ⟨u, hu⟩ := ha
  obtain ⟨v, hv⟩ := hb
  obtain ⟨i, h1, h2⟩ := info49
  obtain ⟨j, h3, h4⟩ := info51
  exact run_eql_iface_ptr_other w Tryd.underlying37 Tryd.underlying49 h1 h2 h3 h4 (by intro e; exact hne (by injection e)) hu hv
theorem eql_sameA (w : World) (a : Addr) : (binOp .eql 37 (errAtA a) (errAtA a)).run Tryd.prog w = .ok (.bool true) w := by
  obtain ⟨i, h1, h2⟩ := info49
  obtain ⟨j, h3, h4⟩ := info51
  exact run_eql_iface_ptr_same w a Tryd.underlying37 Tryd.underlying49 h1 h2 h3
theorem eql_otherA {w : World} {a b : Addr} (ha : ErrA w a) (hb : ErrA w b) (hne : a ≠ b) : (binOp .eql 37 (errAtA a) (errAtA b)).run Tryd.prog w = .ok (.bool false) w := by
  obtain ⟨u, t, hu⟩ := ha
  obtain ⟨v, t', hv⟩ := hb
  obtain ⟨i, h1, h2⟩ := info49
  obtain ⟨j, h3, h4⟩ := info51
  exact run_eql_iface_ptr_other w Tryd.underlying37 Tryd.underlying49 h1 h2 h3 h4 hne hu hv
theorem row_typed {w : World} {base : Nat} {ok : Nat → Prop} {v : Value} {xs : List Ans} (h : ka.R 30 w base ok v xs) : ∀ k, v.ownBlock = some k → ∃ cs, w.heap[k]? = some (.cells cs 30 (0, 0)) := by
  obtain ⟨h0, inner, ho, hr⟩ := h
  exact fun k hk => own_typed ho k hk
/-- The answers' row stays behind a step. -/
theorem row_kept {w wr w' : World} {z n n' : Nat} {eg : Addr} {f f' : St} {s : Step} {a : Ans} {v : Value} {xs : List Ans} (h : ka.R 30 wr w.heap.size (fun _ => True) v xs) (hh : Head w (bs0 z eg) f n wr) (he : Env w wr (bsAt z eg wr.heap.size) f' n' s a w') :
    ka.R 30 w' w.heap.size (fun _ => True) v xs := by
  refine Kd.R_mono (Kd.R_move (Kd.R_bound h) (fun k hk => ?_)) (fun _ _ => trivial)
  obtain ⟨_, _, hlt, q, _, cs, hcs⟩ := hk
  refine he.rest k (fun e => ?_) (fun e => by simp only at e; omega) hlt
  obtain ⟨D, ⟨es, clock, hm, _⟩, _⟩ := hh.map
  simp only at e hm
  rw [e] at hcs
  rw [hm] at hcs
  cases hcs
theorem create_code (f : St) (s : Step) : (create f s).2.2.2.2 = 0 ∨ (create f s).2.2.2.2 = 1 ∨ (create f s).2.2.2.2 = 2 ∨ (create f s).2.2.2.2 = 3 := by
  unfold create make errOf no
  repeat' (first | split | simp)
theorem step_code (f : St) (s : Step) : (step f s).2.2.2.2 = 0 ∨ (step f s).2.2.2.2 = 1 ∨ (step f s).2.2.2.2 = 2 ∨ (step f s).2.2.2.2 = 3 := by
  unfold step
  repeat' (first | exact create_code f s | split | (simp [no]; done) | (unfold remove errOf no; repeat' (first | split | (simp; done))))

theorem at_old {w : World} {k : Nat} {x o : Obj} (h : w.heap[k]? = some x) : (w.alloc o).heap[k]? = some x := (heap_alloc_old w o (Array.getElem?_eq_some_iff.1 h).1).trans h
theorem start_head (w : World) (eg : Addr) (ht : Told w eg) : Head w (bs0 w.heap.size eg) (fun _ => none) 0
    ((((((w.alloc (.map #[] 0)).alloc (.cells #[.map (some w.heap.size)] 48)).alloc (.cells #[.string ⟨#[111, 119, 110]⟩] 51)).alloc (.cells #[.string ⟨#[101, 120, 105, 115, 116, 115]⟩] 51)).alloc (.cells #[.iface 49 (.pointer (some ⟨w.heap.size + 1 + 1, 0, none⟩))] 37)).alloc (.cells #[.iface 49 (.pointer (some ⟨w.heap.size + 1 + 1 + 1, 0, none⟩))] 37)) := by
  have new : ∀ (w : World) (o : Obj) (k : Nat), k = w.heap.size → (w.alloc o).heap[k]? = some o := fun w o k hk => by rw [hk]; exact heap_alloc_new w o
  refine ⟨?_, ?_, ?_, ?_, ⟨.string ⟨#[111, 119, 110]⟩, ?_⟩, ⟨.string ⟨#[101, 120, 105, 115, 116, 115]⟩, ?_⟩, ht, ?_⟩
  · exact at_old (at_old (at_old (at_old (new _ _ _ (by simp)))))
  · have := MapIs.made w
    exact this.kept (by
      have h0 : (w.alloc (.map #[] 0)).heap[w.heap.size]? = some (.map #[] 0) := heap_alloc_new _ _
      rw [h0]
      exact at_old (at_old (at_old (at_old (at_old h0)))))
  · exact at_old (new _ _ _ (by simp))
  · exact new _ _ _ (by simp)
  · exact at_old (at_old (at_old (new _ _ _ (by simp))))
  · exact at_old (at_old (new _ _ _ (by simp)))
  · exact ((((((Below.refl _ _).alloc (Nat.le_refl _) _).alloc (by simp) _).alloc (by simp; omega) _).alloc (by simp; omega) _).alloc (by simp; omega) _).alloc (by simp; omega) _
/-- Behind the switch over what is to be done. -/
def Mid (w wr : World) (z : Nat) (eg : Addr) (n : Nat) (s : Step) (f : St) (v12 : Value) (wc : World) : Prop :=
  v12 = errV (z + 1 + 1) (z + 1 + 1 + 1) eg (step f s).2.2.2.2 ∧ ∃ n', n' ≤ n + 2 ∧ Env w wr (bsAt z eg wr.heap.size) (step f s).1 n' s ((step f s).2.1, (step f s).2.2.1, (step f s).2.2.2.1, 0) wc
set_option maxHeartbeats 4000000 in
set_option maxRecDepth 100000 in
theorem steps_any (A : Option Addr) (c : Nat) (l : List Six) (w : World) (hn : l.length ≤ 1000000) (hr : ks.C w A l.length l) (hc : l.length ≤ c) (eg : Addr) (ht : Told w eg) (hs : ∀ x ∈ l, x.2.1.size ≤ maxLen) :
    Calls Tryd.prog 8 #[.slice A l.length c] w fun e w' => ∃ v, e = .returned v ∧ ka.R 30 w' w.heap.size (fun _ => True) v (steps (fun _ => none) (l.map toStep)) ∧ Below w.heap.size w w' := by
  have hlt : eg.block < w.heap.size := by obtain ⟨_, _, _, hv⟩ := ht; exact (Array.getElem?_eq_some_iff.1 hv).1
  have HR := Lib.hid hr
  have HT := Lib.hid ht
  have HS := Lib.hid hs
  clear hr ht hs
  go_enter Tryd.func8, Tryd.ntmps8
  go_wp2_with (first | (go_at_call 11; (with_reducible refine (newCache_any _).mono ?_); rintro e w1 ⟨rfl, rfl⟩) | (go_at_call 12; (with_reducible refine (newErr_any _ _).mono ?_); rintro e w1 ⟨rfl, rfl⟩))
  go_loopw [6, 18] (fun v6 v18 wr => ∃ i : Nat, i ≤ l.length ∧ v18 = .int .i64 i ∧ ka.R 30 wr w.heap.size (fun _ => True) v6 (steps (fun _ => none) ((l.take i).map toStep)) ∧ ∃ n, n ≤ 2 * i ∧ Head w (bs0 w.heap.size eg) (stAt (fun _ => none) ((l.take i).map toStep)) n wr) (fun _ v18 _ => l.length - (intOf v18).toNat)
  case atStart =>
    exact ⟨0, Nat.zero_le _, rfl, Kd.R_nil _ _ _ _ _, 0, Nat.le_refl _, start_head w eg HT.out⟩
  case round =>
    obtain ⟨i, hi, rfl, ho, n, hnn, hh⟩ := hrel
    have HO := Lib.hid ho
    have HH := Lib.hid hh
    clear ho hh
    by_cases hl : i < l.length
    · have b0 : decide ((i : Int) < (l.length : Int)) = true := decide_eq_true (by omega)
      have b1 : (i : Int) < (l.length : Int) := by omega
      obtain ⟨ad, rfl, x1, x2, x3, x4, x5, x6, hx, c0, c1, c2, c3, c4, c5⟩ := ks_C (Kd.C_below HR.out HH.out.below) i hl
      have hsz : x2.size ≤ maxLen := by have := HS.out _ (List.getElem_mem hl); rw [hx] at this; exact this
      have hsn := steps_snoc ((l.take i).map toStep) (fun _ => none) (toStep (x1, x2, x3, x4, x5, x6))
      have htk : l.take i ++ [(x1, x2, x3, x4, x5, x6)] = l.take (i + 1) := by rw [List.take_succ_eq_append_getElem hl, hx]
      rw [show (l.take i).map toStep ++ [toStep (x1, x2, x3, x4, x5, x6)] = (l.take (i + 1)).map toStep by rw [← htk]; simp, show toStep (x1, x2, x3, x4, x5, x6) = ⟨x1, x2, x3, x4, x5, x6⟩ from rfl] at hsn
      have HSN := Lib.hid hsn
      have HZ := Lib.hid hsz
      clear hx htk hsn hsz
      obtain ⟨A6, c6, e6⟩ := Kd.R_slice HO.out
      subst e6
      have hol : (steps (fun _ => none) ((l.take i).map toStep)).length ≤ 1000000 := by rw [steps_len]; simp; omega
      generalize hst : stAt (fun _ => none) ((l.take i).map toStep) = f at *
      generalize hou : steps (fun _ => none) ((l.take i).map toStep) = outs at *
      clear hst hou
      have henv := HH.out.env hlt (toStep (x1, x2, x3, x4, x5, x6)) no
      simp only [toStep, no] at henv
      have HE := Lib.hid henv
      clear henv
      have hn' : n + 2 < maxLen := by unfold maxLen; omega
      have HN := Lib.hid hn'
      clear hn'
      cases x4
      · go_upto_block 2 with (fail)
        go_cut [12] (fun v12 wc => Mid w wr w.heap.size eg n ⟨x1, x2, x3, false, x5, x6⟩ f v12 wc)
        case first =>
          by_cases y0 : x1 = 0
          · subst y0
            have hcr := mark_ok HE.out (by have := HN.out; omega) HZ.out
            have HCR := Lib.hid hcr
            clear hcr
            go_wp2_with (go_at_call 15; (with_reducible refine HCR.out.mono ?_); rintro e w5 ⟨rfl, n5, hn5, he5⟩; have HE5 := Lib.hid he5; clear he5)
            go_meet
            case rel => exact ⟨rfl, n5, hn5, HE5.out⟩
          by_cases y1 : x1 = 1
          · subst y1
            have hcr := mark_gone HE.out (by have := HN.out; omega) HZ.out
            have HCR := Lib.hid hcr
            clear hcr
            go_wp2_with (go_at_call 16; (with_reducible refine HCR.out.mono ?_); rintro e w5 ⟨rfl, n5, hn5, he5⟩; have HE5 := Lib.hid he5; clear he5)
            go_meet
            case rel => exact ⟨rfl, n5, hn5, HE5.out⟩
          by_cases y2 : x1 = 2
          · subst y2
            have hcr := deleted_any HE.out HZ.out
            have HCR := Lib.hid hcr
            have he5 := HH.out.env hlt ⟨2, x2, x3, false, x5, x6⟩ (decide (f x2 = some false), false, false, 0)
            have HE5 := Lib.hid he5
            clear hcr he5
            generalize hdd : decide (f x2 = some false) = dd at *
            have HD := Lib.hid hdd
            clear hdd
            go_wp2_with (go_at_call 17; (with_reducible refine HCR.out.mono ?_); rintro e w5 ⟨rfl, rfl⟩)
            go_meet
            case rel =>
              have e2 : step f ⟨2, x2, x3, false, x5, x6⟩ = (f, (dd, false, false, 0)) := by show (f, (decide (f x2 = some false), false, false, (0 : Int))) = _; rw [HD.out]
              refine ⟨by rw [e2]; rfl, n, by omega, ?_⟩
              rw [e2]
              exact HE5.out
          by_cases y3 : x1 = 3
          · subst y3
            have hcr : Calls Tryd.prog 18 #[.pointer (some ⟨w.heap.size + 1, 0, none⟩), .string x2, .func (.func 13) #[] #[.pointer (some ⟨wr.heap.size + 1, 0, none⟩), .pointer (some ⟨wr.heap.size, 0, none⟩), .pointer (some ⟨w.heap.size + 1 + 1 + 1 + 1, 0, none⟩)], .nilFunc] _ (CPost w wr (bsAt w.heap.size eg wr.heap.size) n ⟨3, x2, x3, false, x5, x6⟩ (create f ⟨3, x2, x3, false, x5, x6⟩)) := create_any HE.out HN.out HZ.out
            have HCR := Lib.hid hcr
            clear hcr
            go_wp2_with (go_at_call 18; (with_reducible refine HCR.out.mono ?_); rintro e w5 ⟨rfl, n5, hn5, he5⟩; have HE5 := Lib.hid he5; clear he5)
            go_meet
            case rel => exact ⟨rfl, n5, hn5, HE5.out⟩
          by_cases y4 : x1 = 4
          · subst y4
            have hcr : Calls Tryd.prog 19 #[.pointer (some ⟨w.heap.size + 1, 0, none⟩), .string x2, .func (.func 13) #[] #[.pointer (some ⟨wr.heap.size + 1, 0, none⟩), .pointer (some ⟨wr.heap.size, 0, none⟩), .pointer (some ⟨w.heap.size + 1 + 1 + 1 + 1, 0, none⟩)]] _ (CPost w wr (bsAt w.heap.size eg wr.heap.size) n ⟨4, x2, x3, false, x5, x6⟩ (remove f ⟨4, x2, x3, false, x5, x6⟩)) := remove_any HE.out HN.out HZ.out
            have HCR := Lib.hid hcr
            clear hcr
            go_wp2_with (go_at_call 19; (with_reducible refine HCR.out.mono ?_); rintro e w5 ⟨rfl, n5, hn5, he5⟩; have HE5 := Lib.hid he5; clear he5)
            go_meet
            case rel => exact ⟨rfl, n5, hn5, HE5.out⟩
          have e5 : step f ⟨x1, x2, x3, false, x5, x6⟩ = (f, no) := by unfold step; rw [if_neg y0, if_neg y1, if_neg y2, if_neg y3, if_neg y4]
          have E5 := Lib.hid e5
          have z0 : (x1 == 0) = false := beq_eq_false_iff_ne.2 y0
          have z1 : (x1 == 1) = false := beq_eq_false_iff_ne.2 y1
          have z2 : (x1 == 2) = false := beq_eq_false_iff_ne.2 y2
          have z3 : (x1 == 3) = false := beq_eq_false_iff_ne.2 y3
          have z4 : (x1 == 4) = false := beq_eq_false_iff_ne.2 y4
          clear e5 y0 y1 y2 y3 y4
          go_wp2
          go_meet
          case rel =>
            refine ⟨by rw [E5.out]; rfl, n, by omega, ?_⟩
            rw [E5.out]
            exact HE.out
        case rest =>
          obtain ⟨rfl, n', hn2, he⟩ := hcut
          have hcode := step_code f ⟨x1, x2, x3, false, x5, x6⟩
          generalize step f ⟨x1, x2, x3, false, x5, x6⟩ = r at *
          obtain ⟨f', d, cl, aq, co⟩ := r
          dsimp only at *
          clear HE
          have q3 := eql_nil
          have q4 := eql_err
          rcases hcode with rfl | rfl | rfl | rfl
          · rw [show errV (w.heap.size + 1 + 1) (w.heap.size + 1 + 1 + 1) eg 0 = .nilIface from rfl]
            skip
            have he2 := he.set9 3 (.int .i64 0) (d, cl, aq, 0) rfl
            have k9 := cell_of he.ans 3 (v := .int .i64 0) rfl
            have f9 := free_of he.ans 3
            have k0 := cell_of he2.ans 0 (v := .bool d) rfl
            have k1 := cell_of he2.ans 1 (v := .bool cl) rfl
            have k2 := cell_of he2.ans 2 (v := .bool aq) rfl
            have k3 := cell_of he2.ans 3 (v := .int .i64 0) rfl
            have ho2 := row_kept HO.out HH.out he2
            have hw9 : w.heap.size ≤ (wc.setCell ⟨wr.heap.size + 1, 3, none⟩ (.int .i64 0)).heap.size := he2.below.size
            have HE2 := Lib.hid he2
            have HO2 := Lib.hid ho2
            clear he he2 ho2
            generalize hww : wc.setCell ⟨wr.heap.size + 1, 3, none⟩ (.int .i64 0) = wx at *
            have HWW := Lib.hid hww
            clear hww
            go_upto_region 34 with (fail)
            rw [HWW.out]
            go_wp2_with (first
              | ((with_reducible refine gate_builtin (b := .append) (xs := #[.tmp 79, .tmp 81]) rfl ?_); at_builtin; refine Kd.R_append ka (w0 := w) w.heap.size rfl (.tmp 79) (.tmp 81) 25 30 (.agg #[.bool false, .bool false, .bool false, .int .i64 0]) 16 rfl Tryd.underlying25 info30 rfl (by decide) (by omega) (.slice A6 outs.length c6) outs (d, cl, aq, 0) [.bool d, .bool cl, .bool aq, .int .i64 0] (fun _ => True) (fun _ => False) rfl rfl (ka_mk _ _ _ (d, cl, aq, 0)) (fun _ hk => hk.elim) (fun _ _ => trivial) HO2.out HE2.out.below hw9 (by omega) ?_; intro v6 w6 ho6 hb6 hg6 hn6; have HO6 := Lib.hid ho6; have HH6 := Lib.hid (HE2.out.head.grown hg6 hb6 (row_typed HO2.out)); clear ho6 hb6 hg6 hn6))
            go_roundw
            case rel => exact ⟨i + 1, by omega, by go_num, HSN.out.1 ▸ HO6.out, n', by omega, HSN.out.2 ▸ HH6.out⟩
            case measure => simp [intOf]; omega
          · rw [show errV (w.heap.size + 1 + 1) (w.heap.size + 1 + 1 + 1) eg 1 = errAt (w.heap.size + 1 + 1) from rfl]
            have p1 := eql_same wc (w.heap.size + 1 + 1); have m4 := cell_of he.own 0 (v := errAt (w.heap.size + 1 + 1)) rfl
            have he2 := he.set9 3 (.int .i64 1) (d, cl, aq, 1) rfl
            have k9 := cell_of he.ans 3 (v := .int .i64 0) rfl
            have f9 := free_of he.ans 3
            have k0 := cell_of he2.ans 0 (v := .bool d) rfl
            have k1 := cell_of he2.ans 1 (v := .bool cl) rfl
            have k2 := cell_of he2.ans 2 (v := .bool aq) rfl
            have k3 := cell_of he2.ans 3 (v := .int .i64 1) rfl
            have ho2 := row_kept HO.out HH.out he2
            have hw9 : w.heap.size ≤ (wc.setCell ⟨wr.heap.size + 1, 3, none⟩ (.int .i64 1)).heap.size := he2.below.size
            have HE2 := Lib.hid he2
            have HO2 := Lib.hid ho2
            clear he he2 ho2
            generalize hww : wc.setCell ⟨wr.heap.size + 1, 3, none⟩ (.int .i64 1) = wx at *
            have HWW := Lib.hid hww
            clear hww
            go_upto_region 34 with (fail)
            rw [HWW.out]
            go_wp2_with (first
              | ((with_reducible refine gate_builtin (b := .append) (xs := #[.tmp 79, .tmp 81]) rfl ?_); at_builtin; refine Kd.R_append ka (w0 := w) w.heap.size rfl (.tmp 79) (.tmp 81) 25 30 (.agg #[.bool false, .bool false, .bool false, .int .i64 0]) 16 rfl Tryd.underlying25 info30 rfl (by decide) (by omega) (.slice A6 outs.length c6) outs (d, cl, aq, 1) [.bool d, .bool cl, .bool aq, .int .i64 1] (fun _ => True) (fun _ => False) rfl rfl (ka_mk _ _ _ (d, cl, aq, 1)) (fun _ hk => hk.elim) (fun _ _ => trivial) HO2.out HE2.out.below hw9 (by omega) ?_; intro v6 w6 ho6 hb6 hg6 hn6; have HO6 := Lib.hid ho6; have HH6 := Lib.hid (HE2.out.head.grown hg6 hb6 (row_typed HO2.out)); clear ho6 hb6 hg6 hn6))
            go_roundw
            case rel => exact ⟨i + 1, by omega, by go_num, HSN.out.1 ▸ HO6.out, n', by omega, HSN.out.2 ▸ HH6.out⟩
            case measure => simp [intOf]; omega
          · rw [show errV (w.heap.size + 1 + 1) (w.heap.size + 1 + 1 + 1) eg 2 = errAt (w.heap.size + 1 + 1 + 1) from rfl]
            have p1 := eql_other (a := w.heap.size + 1 + 1 + 1) (b := w.heap.size + 1 + 1) he.er2 he.er1 (by omega); have p2 := eql_same wc (w.heap.size + 1 + 1 + 1); have m4 := cell_of he.own 0 (v := errAt (w.heap.size + 1 + 1)) rfl; have m5 := cell_of he.exs 0 (v := errAt (w.heap.size + 1 + 1 + 1)) rfl
            have he2 := he.set9 3 (.int .i64 2) (d, cl, aq, 2) rfl
            have k9 := cell_of he.ans 3 (v := .int .i64 0) rfl
            have f9 := free_of he.ans 3
            have k0 := cell_of he2.ans 0 (v := .bool d) rfl
            have k1 := cell_of he2.ans 1 (v := .bool cl) rfl
            have k2 := cell_of he2.ans 2 (v := .bool aq) rfl
            have k3 := cell_of he2.ans 3 (v := .int .i64 2) rfl
            have ho2 := row_kept HO.out HH.out he2
            have hw9 : w.heap.size ≤ (wc.setCell ⟨wr.heap.size + 1, 3, none⟩ (.int .i64 2)).heap.size := he2.below.size
            have HE2 := Lib.hid he2
            have HO2 := Lib.hid ho2
            clear he he2 ho2
            generalize hww : wc.setCell ⟨wr.heap.size + 1, 3, none⟩ (.int .i64 2) = wx at *
            have HWW := Lib.hid hww
            clear hww
            go_upto_region 34 with (fail)
            rw [HWW.out]
            go_wp2_with (first
              | ((with_reducible refine gate_builtin (b := .append) (xs := #[.tmp 79, .tmp 81]) rfl ?_); at_builtin; refine Kd.R_append ka (w0 := w) w.heap.size rfl (.tmp 79) (.tmp 81) 25 30 (.agg #[.bool false, .bool false, .bool false, .int .i64 0]) 16 rfl Tryd.underlying25 info30 rfl (by decide) (by omega) (.slice A6 outs.length c6) outs (d, cl, aq, 2) [.bool d, .bool cl, .bool aq, .int .i64 2] (fun _ => True) (fun _ => False) rfl rfl (ka_mk _ _ _ (d, cl, aq, 2)) (fun _ hk => hk.elim) (fun _ _ => trivial) HO2.out HE2.out.below hw9 (by omega) ?_; intro v6 w6 ho6 hb6 hg6 hn6; have HO6 := Lib.hid ho6; have HH6 := Lib.hid (HE2.out.head.grown hg6 hb6 (row_typed HO2.out)); clear ho6 hb6 hg6 hn6))
            go_roundw
            case rel => exact ⟨i + 1, by omega, by go_num, HSN.out.1 ▸ HO6.out, n', by omega, HSN.out.2 ▸ HH6.out⟩
            case measure => simp [intOf]; omega
          · rw [show errV (w.heap.size + 1 + 1) (w.heap.size + 1 + 1 + 1) eg 3 = errAtA eg from rfl]
            have p1 := eql_otherA (a := eg) (b := ⟨w.heap.size + 1 + 1, 0, none⟩) he.told'.2 (by obtain ⟨u, hu⟩ := he.er1; exact ⟨_, _, hu⟩) (by intro e; have := congrArg Addr.block e; simp at this; omega); have p2 := eql_otherA (a := eg) (b := ⟨w.heap.size + 1 + 1 + 1, 0, none⟩) he.told'.2 (by obtain ⟨u, hu⟩ := he.er2; exact ⟨_, _, hu⟩) (by intro e; have := congrArg Addr.block e; simp at this; omega); have p3 := eql_sameA wc eg; have m4 := cell_of he.own 0 (v := errAt (w.heap.size + 1 + 1)) rfl; have m5 := cell_of he.exs 0 (v := errAt (w.heap.size + 1 + 1 + 1)) rfl; have m0 := he.told'.1
            have he2 := he.set9 3 (.int .i64 3) (d, cl, aq, 3) rfl
            have k9 := cell_of he.ans 3 (v := .int .i64 0) rfl
            have f9 := free_of he.ans 3
            have k0 := cell_of he2.ans 0 (v := .bool d) rfl
            have k1 := cell_of he2.ans 1 (v := .bool cl) rfl
            have k2 := cell_of he2.ans 2 (v := .bool aq) rfl
            have k3 := cell_of he2.ans 3 (v := .int .i64 3) rfl
            have ho2 := row_kept HO.out HH.out he2
            have hw9 : w.heap.size ≤ (wc.setCell ⟨wr.heap.size + 1, 3, none⟩ (.int .i64 3)).heap.size := he2.below.size
            have HE2 := Lib.hid he2
            have HO2 := Lib.hid ho2
            clear he he2 ho2
            generalize hww : wc.setCell ⟨wr.heap.size + 1, 3, none⟩ (.int .i64 3) = wx at *
            have HWW := Lib.hid hww
            clear hww
            go_upto_region 34 with (fail)
            rw [HWW.out]
            go_wp2_with (first
              | ((with_reducible refine gate_builtin (b := .append) (xs := #[.tmp 79, .tmp 81]) rfl ?_); at_builtin; refine Kd.R_append ka (w0 := w) w.heap.size rfl (.tmp 79) (.tmp 81) 25 30 (.agg #[.bool false, .bool false, .bool false, .int .i64 0]) 16 rfl Tryd.underlying25 info30 rfl (by decide) (by omega) (.slice A6 outs.length c6) outs (d, cl, aq, 3) [.bool d, .bool cl, .bool aq, .int .i64 3] (fun _ => True) (fun _ => False) rfl rfl (ka_mk _ _ _ (d, cl, aq, 3)) (fun _ hk => hk.elim) (fun _ _ => trivial) HO2.out HE2.out.below hw9 (by omega) ?_; intro v6 w6 ho6 hb6 hg6 hn6; have HO6 := Lib.hid ho6; have HH6 := Lib.hid (HE2.out.head.grown hg6 hb6 (row_typed HO2.out)); clear ho6 hb6 hg6 hn6))
            go_roundw
            case rel => exact ⟨i + 1, by omega, by go_num, HSN.out.1 ▸ HO6.out, n', by omega, HSN.out.2 ▸ HH6.out⟩
            case measure => simp [intOf]; omega
      · go_upto_block 2 with (fail)
        go_cut [12] (fun v12 wc => Mid w wr w.heap.size eg n ⟨x1, x2, x3, true, x5, x6⟩ f v12 wc)
        case first =>
          by_cases y0 : x1 = 0
          · subst y0
            have hcr := mark_ok HE.out (by have := HN.out; omega) HZ.out
            have HCR := Lib.hid hcr
            clear hcr
            go_wp2_with (go_at_call 15; (with_reducible refine HCR.out.mono ?_); rintro e w5 ⟨rfl, n5, hn5, he5⟩; have HE5 := Lib.hid he5; clear he5)
            go_meet
            case rel => exact ⟨rfl, n5, hn5, HE5.out⟩
          by_cases y1 : x1 = 1
          · subst y1
            have hcr := mark_gone HE.out (by have := HN.out; omega) HZ.out
            have HCR := Lib.hid hcr
            clear hcr
            go_wp2_with (go_at_call 16; (with_reducible refine HCR.out.mono ?_); rintro e w5 ⟨rfl, n5, hn5, he5⟩; have HE5 := Lib.hid he5; clear he5)
            go_meet
            case rel => exact ⟨rfl, n5, hn5, HE5.out⟩
          by_cases y2 : x1 = 2
          · subst y2
            have hcr := deleted_any HE.out HZ.out
            have HCR := Lib.hid hcr
            have he5 := HH.out.env hlt ⟨2, x2, x3, true, x5, x6⟩ (decide (f x2 = some false), false, false, 0)
            have HE5 := Lib.hid he5
            clear hcr he5
            generalize hdd : decide (f x2 = some false) = dd at *
            have HD := Lib.hid hdd
            clear hdd
            go_wp2_with (go_at_call 17; (with_reducible refine HCR.out.mono ?_); rintro e w5 ⟨rfl, rfl⟩)
            go_meet
            case rel =>
              have e2 : step f ⟨2, x2, x3, true, x5, x6⟩ = (f, (dd, false, false, 0)) := by show (f, (decide (f x2 = some false), false, false, (0 : Int))) = _; rw [HD.out]
              refine ⟨by rw [e2]; rfl, n, by omega, ?_⟩
              rw [e2]
              exact HE5.out
          by_cases y3 : x1 = 3
          · subst y3
            have hcr : Calls Tryd.prog 18 #[.pointer (some ⟨w.heap.size + 1, 0, none⟩), .string x2, .func (.func 13) #[] #[.pointer (some ⟨wr.heap.size + 1, 0, none⟩), .pointer (some ⟨wr.heap.size, 0, none⟩), .pointer (some ⟨w.heap.size + 1 + 1 + 1 + 1, 0, none⟩)], .func (.func 14) #[] #[.pointer (some ⟨wr.heap.size + 1, 0, none⟩), .pointer (some ⟨wr.heap.size, 0, none⟩), .pointer (some ⟨w.heap.size + 1 + 1 + 1 + 1 + 1, 0, none⟩)]] _ (CPost w wr (bsAt w.heap.size eg wr.heap.size) n ⟨3, x2, x3, true, x5, x6⟩ (create f ⟨3, x2, x3, true, x5, x6⟩)) := create_any HE.out HN.out HZ.out
            have HCR := Lib.hid hcr
            clear hcr
            go_wp2_with (go_at_call 18; (with_reducible refine HCR.out.mono ?_); rintro e w5 ⟨rfl, n5, hn5, he5⟩; have HE5 := Lib.hid he5; clear he5)
            go_meet
            case rel => exact ⟨rfl, n5, hn5, HE5.out⟩
          by_cases y4 : x1 = 4
          · subst y4
            have hcr : Calls Tryd.prog 19 #[.pointer (some ⟨w.heap.size + 1, 0, none⟩), .string x2, .func (.func 13) #[] #[.pointer (some ⟨wr.heap.size + 1, 0, none⟩), .pointer (some ⟨wr.heap.size, 0, none⟩), .pointer (some ⟨w.heap.size + 1 + 1 + 1 + 1, 0, none⟩)]] _ (CPost w wr (bsAt w.heap.size eg wr.heap.size) n ⟨4, x2, x3, true, x5, x6⟩ (remove f ⟨4, x2, x3, true, x5, x6⟩)) := remove_any HE.out HN.out HZ.out
            have HCR := Lib.hid hcr
            clear hcr
            go_wp2_with (go_at_call 19; (with_reducible refine HCR.out.mono ?_); rintro e w5 ⟨rfl, n5, hn5, he5⟩; have HE5 := Lib.hid he5; clear he5)
            go_meet
            case rel => exact ⟨rfl, n5, hn5, HE5.out⟩
          have e5 : step f ⟨x1, x2, x3, true, x5, x6⟩ = (f, no) := by unfold step; rw [if_neg y0, if_neg y1, if_neg y2, if_neg y3, if_neg y4]
          have E5 := Lib.hid e5
          have z0 : (x1 == 0) = false := beq_eq_false_iff_ne.2 y0
          have z1 : (x1 == 1) = false := beq_eq_false_iff_ne.2 y1
          have z2 : (x1 == 2) = false := beq_eq_false_iff_ne.2 y2
          have z3 : (x1 == 3) = false := beq_eq_false_iff_ne.2 y3
          have z4 : (x1 == 4) = false := beq_eq_false_iff_ne.2 y4
          clear e5 y0 y1 y2 y3 y4
          go_wp2
          go_meet
          case rel =>
            refine ⟨by rw [E5.out]; rfl, n, by omega, ?_⟩
            rw [E5.out]
            exact HE.out
        case rest =>
          obtain ⟨rfl, n', hn2, he⟩ := hcut
          have hcode := step_code f ⟨x1, x2, x3, true, x5, x6⟩
          generalize step f ⟨x1, x2, x3, true, x5, x6⟩ = r at *
          obtain ⟨f', d, cl, aq, co⟩ := r
          dsimp only at *
          clear HE
          have q3 := eql_nil
          have q4 := eql_err
          rcases hcode with rfl | rfl | rfl | rfl
          · rw [show errV (w.heap.size + 1 + 1) (w.heap.size + 1 + 1 + 1) eg 0 = .nilIface from rfl]
            skip
            have he2 := he.set9 3 (.int .i64 0) (d, cl, aq, 0) rfl
            have k9 := cell_of he.ans 3 (v := .int .i64 0) rfl
            have f9 := free_of he.ans 3
            have k0 := cell_of he2.ans 0 (v := .bool d) rfl
            have k1 := cell_of he2.ans 1 (v := .bool cl) rfl
            have k2 := cell_of he2.ans 2 (v := .bool aq) rfl
            have k3 := cell_of he2.ans 3 (v := .int .i64 0) rfl
            have ho2 := row_kept HO.out HH.out he2
            have hw9 : w.heap.size ≤ (wc.setCell ⟨wr.heap.size + 1, 3, none⟩ (.int .i64 0)).heap.size := he2.below.size
            have HE2 := Lib.hid he2
            have HO2 := Lib.hid ho2
            clear he he2 ho2
            generalize hww : wc.setCell ⟨wr.heap.size + 1, 3, none⟩ (.int .i64 0) = wx at *
            have HWW := Lib.hid hww
            clear hww
            go_upto_region 34 with (fail)
            rw [HWW.out]
            go_wp2_with (first
              | ((with_reducible refine gate_builtin (b := .append) (xs := #[.tmp 79, .tmp 81]) rfl ?_); at_builtin; refine Kd.R_append ka (w0 := w) w.heap.size rfl (.tmp 79) (.tmp 81) 25 30 (.agg #[.bool false, .bool false, .bool false, .int .i64 0]) 16 rfl Tryd.underlying25 info30 rfl (by decide) (by omega) (.slice A6 outs.length c6) outs (d, cl, aq, 0) [.bool d, .bool cl, .bool aq, .int .i64 0] (fun _ => True) (fun _ => False) rfl rfl (ka_mk _ _ _ (d, cl, aq, 0)) (fun _ hk => hk.elim) (fun _ _ => trivial) HO2.out HE2.out.below hw9 (by omega) ?_; intro v6 w6 ho6 hb6 hg6 hn6; have HO6 := Lib.hid ho6; have HH6 := Lib.hid (HE2.out.head.grown hg6 hb6 (row_typed HO2.out)); clear ho6 hb6 hg6 hn6))
            go_roundw
            case rel => exact ⟨i + 1, by omega, by go_num, HSN.out.1 ▸ HO6.out, n', by omega, HSN.out.2 ▸ HH6.out⟩
            case measure => simp [intOf]; omega
          · rw [show errV (w.heap.size + 1 + 1) (w.heap.size + 1 + 1 + 1) eg 1 = errAt (w.heap.size + 1 + 1) from rfl]
            have p1 := eql_same wc (w.heap.size + 1 + 1); have m4 := cell_of he.own 0 (v := errAt (w.heap.size + 1 + 1)) rfl
            have he2 := he.set9 3 (.int .i64 1) (d, cl, aq, 1) rfl
            have k9 := cell_of he.ans 3 (v := .int .i64 0) rfl
            have f9 := free_of he.ans 3
            have k0 := cell_of he2.ans 0 (v := .bool d) rfl
            have k1 := cell_of he2.ans 1 (v := .bool cl) rfl
            have k2 := cell_of he2.ans 2 (v := .bool aq) rfl
            have k3 := cell_of he2.ans 3 (v := .int .i64 1) rfl
            have ho2 := row_kept HO.out HH.out he2
            have hw9 : w.heap.size ≤ (wc.setCell ⟨wr.heap.size + 1, 3, none⟩ (.int .i64 1)).heap.size := he2.below.size
            have HE2 := Lib.hid he2
            have HO2 := Lib.hid ho2
            clear he he2 ho2
            generalize hww : wc.setCell ⟨wr.heap.size + 1, 3, none⟩ (.int .i64 1) = wx at *
            have HWW := Lib.hid hww
            clear hww
            go_upto_region 34 with (fail)
            rw [HWW.out]
            go_wp2_with (first
              | ((with_reducible refine gate_builtin (b := .append) (xs := #[.tmp 79, .tmp 81]) rfl ?_); at_builtin; refine Kd.R_append ka (w0 := w) w.heap.size rfl (.tmp 79) (.tmp 81) 25 30 (.agg #[.bool false, .bool false, .bool false, .int .i64 0]) 16 rfl Tryd.underlying25 info30 rfl (by decide) (by omega) (.slice A6 outs.length c6) outs (d, cl, aq, 1) [.bool d, .bool cl, .bool aq, .int .i64 1] (fun _ => True) (fun _ => False) rfl rfl (ka_mk _ _ _ (d, cl, aq, 1)) (fun _ hk => hk.elim) (fun _ _ => trivial) HO2.out HE2.out.below hw9 (by omega) ?_; intro v6 w6 ho6 hb6 hg6 hn6; have HO6 := Lib.hid ho6; have HH6 := Lib.hid (HE2.out.head.grown hg6 hb6 (row_typed HO2.out)); clear ho6 hb6 hg6 hn6))
            go_roundw
            case rel => exact ⟨i + 1, by omega, by go_num, HSN.out.1 ▸ HO6.out, n', by omega, HSN.out.2 ▸ HH6.out⟩
            case measure => simp [intOf]; omega
          · rw [show errV (w.heap.size + 1 + 1) (w.heap.size + 1 + 1 + 1) eg 2 = errAt (w.heap.size + 1 + 1 + 1) from rfl]
            have p1 := eql_other (a := w.heap.size + 1 + 1 + 1) (b := w.heap.size + 1 + 1) he.er2 he.er1 (by omega); have p2 := eql_same wc (w.heap.size + 1 + 1 + 1); have m4 := cell_of he.own 0 (v := errAt (w.heap.size + 1 + 1)) rfl; have m5 := cell_of he.exs 0 (v := errAt (w.heap.size + 1 + 1 + 1)) rfl
            have he2 := he.set9 3 (.int .i64 2) (d, cl, aq, 2) rfl
            have k9 := cell_of he.ans 3 (v := .int .i64 0) rfl
            have f9 := free_of he.ans 3
            have k0 := cell_of he2.ans 0 (v := .bool d) rfl
            have k1 := cell_of he2.ans 1 (v := .bool cl) rfl
            have k2 := cell_of he2.ans 2 (v := .bool aq) rfl
            have k3 := cell_of he2.ans 3 (v := .int .i64 2) rfl
            have ho2 := row_kept HO.out HH.out he2
            have hw9 : w.heap.size ≤ (wc.setCell ⟨wr.heap.size + 1, 3, none⟩ (.int .i64 2)).heap.size := he2.below.size
            have HE2 := Lib.hid he2
            have HO2 := Lib.hid ho2
            clear he he2 ho2
            generalize hww : wc.setCell ⟨wr.heap.size + 1, 3, none⟩ (.int .i64 2) = wx at *
            have HWW := Lib.hid hww
            clear hww
            go_upto_region 34 with (fail)
            rw [HWW.out]
            go_wp2_with (first
              | ((with_reducible refine gate_builtin (b := .append) (xs := #[.tmp 79, .tmp 81]) rfl ?_); at_builtin; refine Kd.R_append ka (w0 := w) w.heap.size rfl (.tmp 79) (.tmp 81) 25 30 (.agg #[.bool false, .bool false, .bool false, .int .i64 0]) 16 rfl Tryd.underlying25 info30 rfl (by decide) (by omega) (.slice A6 outs.length c6) outs (d, cl, aq, 2) [.bool d, .bool cl, .bool aq, .int .i64 2] (fun _ => True) (fun _ => False) rfl rfl (ka_mk _ _ _ (d, cl, aq, 2)) (fun _ hk => hk.elim) (fun _ _ => trivial) HO2.out HE2.out.below hw9 (by omega) ?_; intro v6 w6 ho6 hb6 hg6 hn6; have HO6 := Lib.hid ho6; have HH6 := Lib.hid (HE2.out.head.grown hg6 hb6 (row_typed HO2.out)); clear ho6 hb6 hg6 hn6))
            go_roundw
            case rel => exact ⟨i + 1, by omega, by go_num, HSN.out.1 ▸ HO6.out, n', by omega, HSN.out.2 ▸ HH6.out⟩
            case measure => simp [intOf]; omega
          · rw [show errV (w.heap.size + 1 + 1) (w.heap.size + 1 + 1 + 1) eg 3 = errAtA eg from rfl]
            have p1 := eql_otherA (a := eg) (b := ⟨w.heap.size + 1 + 1, 0, none⟩) he.told'.2 (by obtain ⟨u, hu⟩ := he.er1; exact ⟨_, _, hu⟩) (by intro e; have := congrArg Addr.block e; simp at this; omega); have p2 := eql_otherA (a := eg) (b := ⟨w.heap.size + 1 + 1 + 1, 0, none⟩) he.told'.2 (by obtain ⟨u, hu⟩ := he.er2; exact ⟨_, _, hu⟩) (by intro e; have := congrArg Addr.block e; simp at this; omega); have p3 := eql_sameA wc eg; have m4 := cell_of he.own 0 (v := errAt (w.heap.size + 1 + 1)) rfl; have m5 := cell_of he.exs 0 (v := errAt (w.heap.size + 1 + 1 + 1)) rfl; have m0 := he.told'.1
            have he2 := he.set9 3 (.int .i64 3) (d, cl, aq, 3) rfl
            have k9 := cell_of he.ans 3 (v := .int .i64 0) rfl
            have f9 := free_of he.ans 3
            have k0 := cell_of he2.ans 0 (v := .bool d) rfl
            have k1 := cell_of he2.ans 1 (v := .bool cl) rfl
            have k2 := cell_of he2.ans 2 (v := .bool aq) rfl
            have k3 := cell_of he2.ans 3 (v := .int .i64 3) rfl
            have ho2 := row_kept HO.out HH.out he2
            have hw9 : w.heap.size ≤ (wc.setCell ⟨wr.heap.size + 1, 3, none⟩ (.int .i64 3)).heap.size := he2.below.size
            have HE2 := Lib.hid he2
            have HO2 := Lib.hid ho2
            clear he he2 ho2
            generalize hww : wc.setCell ⟨wr.heap.size + 1, 3, none⟩ (.int .i64 3) = wx at *
            have HWW := Lib.hid hww
            clear hww
            go_upto_region 34 with (fail)
            rw [HWW.out]
            go_wp2_with (first
              | ((with_reducible refine gate_builtin (b := .append) (xs := #[.tmp 79, .tmp 81]) rfl ?_); at_builtin; refine Kd.R_append ka (w0 := w) w.heap.size rfl (.tmp 79) (.tmp 81) 25 30 (.agg #[.bool false, .bool false, .bool false, .int .i64 0]) 16 rfl Tryd.underlying25 info30 rfl (by decide) (by omega) (.slice A6 outs.length c6) outs (d, cl, aq, 3) [.bool d, .bool cl, .bool aq, .int .i64 3] (fun _ => True) (fun _ => False) rfl rfl (ka_mk _ _ _ (d, cl, aq, 3)) (fun _ hk => hk.elim) (fun _ _ => trivial) HO2.out HE2.out.below hw9 (by omega) ?_; intro v6 w6 ho6 hb6 hg6 hn6; have HO6 := Lib.hid ho6; have HH6 := Lib.hid (HE2.out.head.grown hg6 hb6 (row_typed HO2.out)); clear ho6 hb6 hg6 hn6))
            go_roundw
            case rel => exact ⟨i + 1, by omega, by go_num, HSN.out.1 ▸ HO6.out, n', by omega, HSN.out.2 ▸ HH6.out⟩
            case measure => simp [intOf]; omega
    · have b0 : decide ((i : Int) < (l.length : Int)) = false := decide_eq_false (by omega)
      go_wp2
      go_ret
      have e : l.take i = l := List.take_of_length_le (by omega)
      have h := HO.out
      rw [e] at h
      exact ⟨_, rfl, h, HH.out.below⟩
end Go.Proofs.YtbennnoddflggaaDoor.Buck
