import Derived.Test.YtfegihmnpcjdgaaMarks
import Derived.Test.YtfegihmnpcjdgaaRang8
namespace Go.Proofs.Ytfegihmnpcjdgaa.Marks
open Go.RowKit Go.Proofs.YtfegihmnpcjdgaaW.PrintWords Go.Proofs.YtfegihmnpcjdgaaW.PrintMore Go.Proofs.YtfegihmnpcjdgaaW.PrintLast Go.Proofs.Ytfegihmnpcjdgaa.Rang
set_option linter.unusedVariables false
set_option linter.unusedSimpArgs false

/-- Is a byte in one of some ranges, as the reference asks it? -/
def hasB (l : List (Int × Int)) (t : Int) : Bool := l.any fun p => decide (p.1 ≤ t ∧ wrap64 (t - p.1) < p.2)
set_option maxHeartbeats 8000000 in
theorem hasB_any (A : Option Addr) (c : Nat) (l : List (Int × Int)) (t : Int) (w : World) (hn : l.length ≤ 100000) (hr : kp.C w A l.length l) (hc : l.length ≤ c) :
    Calls Try.prog 43 #[.slice A l.length c, .int .i64 t] w fun e w' => e = .returned (.bool (hasB l t)) ∧ Below w.heap.size w w' := by
  have HR := Lib.hid hr
  clear hr
  go_enter Try.func43, Try.ntmps43
  go_wp2
  go_loopw [9] (fun v9 wr => ∃ i : Nat, i ≤ l.length ∧ v9 = .int .i64 i ∧ hasB (l.drop i) t = hasB l t ∧ Below w.heap.size w wr) (fun v9 _ => l.length - (intOf v9).toNat)
  case atStart => exact ⟨0, Nat.zero_le _, rfl, rfl, Below.refl _ _⟩
  case round =>
    obtain ⟨i, hi, rfl, hh, hb⟩ := hrel
    have HH := Lib.hid hh
    have HB := Lib.hid hb
    clear hh hb
    by_cases hlt : i < l.length
    · have b0 : decide ((i : Int) < (l.length : Int)) = true := decide_eq_true (by omega)
      have b1 : (i : Int) < (l.length : Int) := by omega
      obtain ⟨ad, rfl, c0, c1⟩ := kp_C (Kd.C_below HR.out HB.out) i hlt
      have hstep : hasB (l.drop i) t = (decide ((el l i).1 ≤ t ∧ wrap64 (t - (el l i).1) < (el l i).2) || hasB (l.drop (i + 1)) t) := by
        rw [List.drop_eq_getElem_cons hlt, el_get]; rfl
      have HS := Lib.hid hstep
      clear hstep
      have HB1 : Hid (Below w.heap.size w (wr.alloc (.cells #[.int .i64 (el l i).1, .int .i64 (el l i).2] 28))) := Lib.hid (HB.out.alloc HB.out.size _)
      generalize (el l i).1 = q1 at *
      generalize (el l i).2 = q2 at *
      by_cases h1 : q1 ≤ t
      · have d1 : decide (q1 ≤ t) = true := decide_eq_true h1
        by_cases h2 : wrap64 (t - q1) < q2
        · have d2 : decide (wrap64 (t - q1) < q2) = true := decide_eq_true h2
          have he : hasB l t = true := by rw [← HH.out, HS.out, decide_eq_true ⟨h1, h2⟩]; rfl
          have HE := Lib.hid he
          clear he h1 h2
          go_wp2
          go_ret
          exact ⟨by rw [HE.out]; rfl, HB1.out⟩
        · have d2 : decide (wrap64 (t - q1) < q2) = false := decide_eq_false h2
          have he : hasB (l.drop (i + 1)) t = hasB l t := by rw [← HH.out, HS.out, decide_eq_false (fun h => h2 h.2)]; rfl
          have HE := Lib.hid he
          clear he h1 h2
          go_wp2
          go_roundw
          case rel => exact ⟨i + 1, by omega, by go_num, HE.out, HB1.out⟩
          case measure => simp [intOf]; omega
      · have d1 : decide (q1 ≤ t) = false := decide_eq_false h1
        have he : hasB (l.drop (i + 1)) t = hasB l t := by rw [← HH.out, HS.out, decide_eq_false (fun h => h1 h.1)]; rfl
        have HE := Lib.hid he
        clear he h1
        go_wp2
        go_roundw
        case rel => exact ⟨i + 1, by omega, by go_num, HE.out, HB1.out⟩
        case measure => simp [intOf]; omega
    · have b0 : decide ((i : Int) < (l.length : Int)) = false := decide_eq_false (by omega)
      have he : hasB l t = false := by rw [← HH.out, List.drop_of_length_le (by omega)]; rfl
      have HE := Lib.hid he
      clear he
      go_wp2
      go_ret
      exact ⟨by rw [HE.out]; rfl, HB.out⟩

/-- A stretch between two marks, told behind the parts so far. -/
def partStep (l : List (Int × Int)) (r : Int × Int) (out : List ((Int × Int) × Bool)) (a b : Int) : List ((Int × Int) × Bool) :=
  if a < r.1 ∨ wrap64 (r.1 + r.2) < b then out
  else match out.getLast? with
    | some x => if x.2 = hasB l a then out.set (out.length - 1) ((x.1.1, wrap64 (x.1.2 + wrap64 (b - a))), x.2) else out ++ [((a, wrap64 (b - a)), hasB l a)]
    | none => out ++ [((a, wrap64 (b - a)), hasB l a)]
def partRun (l : List (Int × Int)) (r : Int × Int) : List Int → List ((Int × Int) × Bool) → List ((Int × Int) × Bool)
  | a :: b :: ms, out => partRun l r (b :: ms) (partStep l r out a b)
  | _, out => out
/-- The parts of a range, as the reference tells them. -/
def partsB (l : List (Int × Int)) (r : Int × Int) : List ((Int × Int) × Bool) := if r.2 < 1 then [] else partRun l r (marks (l ++ [r])) []

abbrev kq : Kd ((Int × Int) × Bool) := Kd.pair kp Kd.bool
theorem kq_mk (w : World) (base : Nat) (ok : Nat → Prop) (x : (Int × Int) × Bool) : kq.M w base ok x [.int .i64 x.1.1, .int .i64 x.1.2, .bool x.2] := ⟨[.int .i64 x.1.1, .int .i64 x.1.2], [.bool x.2], rfl, kp_mk w base ok x.1, rfl⟩
theorem kq_open {w : World} {base : Nat} {ok : Nat → Prop} {x : (Int × Int) × Bool} {cs : List Value} (h : kq.M w base ok x cs) : cs = [.int .i64 x.1.1, .int .i64 x.1.2, .bool x.2] := by
  obtain ⟨_, _, rfl, h0, rfl⟩ := h
  obtain rfl := kp_open h0
  rfl
theorem info37 : (Try.prog.info? 37).map (fun i => (i.zero, i.size, i.bytes)) = some (some (.agg #[(.int .i64 0), (.int .i64 0), (.bool false)]), 3, 24) := by kernel_rfl
theorem info28 : (Try.prog.info? 28).map (fun i => (i.zero, i.size, i.bytes)) = some (some (.agg #[(.int .i64 0), (.int .i64 0)]), 2, 16) := by kernel_rfl
theorem new2 (w : World) (o p : Obj) : ((w.alloc o).alloc p).heap[w.heap.size + 1]? = some p := by
  have h := heap_alloc_new (w.alloc o) p
  rw [show (w.alloc o).heap.size = w.heap.size + 1 by simp] at h
  exact h
theorem pair_of {w : World} {b t : Nat} {x y : Value} (h : w.heap[b]? = some (.cells #[x, y] t (0, 0))) : w.cell? ⟨b, 0, none⟩ = some x ∧ w.cell? ⟨b, 1, none⟩ = some y := by
  constructor <;> simp [World.cell?, h]
/-- An empty literal. -/
theorem lit_R {w : World} {b base : Nat} (h : w.heap[b]? = some (.cells #[] 28 (0, 0))) (hb : base ≤ b) : kp.R 28 w base (fun _ => True) (.slice (some ⟨b, 0, none⟩) 0 0) [] :=
  ⟨fun _ _ => trivial, [], ⟨rfl, .inr ⟨b, 0, #[], rfl, hb, h, Nat.le_refl _, by decide, rfl, rfl⟩⟩, Reps.none _ _⟩
/-- A literal of one range, read. -/
theorem lit_C {w : World} {b : Nat} {r1 r2 : Int} (h : w.heap[b]? = some (.cells #[.int .i64 r1, .int .i64 r2] 28 (0, 0))) : kp.C w (some ⟨b, 0, none⟩) 1 [(r1, r2)] := by
  refine ⟨rfl, by decide, fun _ => ⟨_, rfl, fun j p hj => ?_⟩⟩
  cases j with
  | zero =>
    simp at hj
    subst hj
    refine ⟨[.int .i64 r1, .int .i64 r2], rfl, ⟨[.int .i64 r1], [.int .i64 r2], rfl, rfl, rfl⟩, fun i u hu => ?_⟩
    rw [Rang.add_at, Nat.zero_mul, Nat.zero_add, Nat.zero_add]
    match i with
    | 0 => simp at hu; subst hu; simp [World.cell?, h]
    | 1 => simp at hu; subst hu; simp [World.cell?, h]
    | i + 2 => simp at hu
  | succ j => simp at hj

theorem marks_at (A : Option Addr) (c : Nat) (l : List (Int × Int)) (r : Int × Int) (w : World) (hn : l.length ≤ 1000) (hr : kp.C w A (l.length + 1) (l ++ [r])) (hc : l.length + 1 ≤ c) :
    Calls Try.prog 42 #[.slice A (l.length + 1) c] w fun e w' => ∃ v, e = .returned v ∧ ki.R 3 w' w.heap.size (fun _ => True) v (marks (l ++ [r])) ∧ Below w.heap.size w w' := by
  have e : (l ++ [r]).length = l.length + 1 := by simp
  have h := marks_any A c (l ++ [r]) w (by omega) (by rw [e]; exact hr) (by omega)
  rw [e] at h; exact h
set_option maxHeartbeats 16000000 in
set_option maxRecDepth 100000 in
theorem parts_any (A : Option Addr) (c : Nat) (l : List (Int × Int)) (r1 r2 : Int) (w : World) (hn : l.length ≤ 1000) (hr : kp.C w A l.length l) (hc : l.length ≤ c) (h1 : ¬ r2 < 1) :
    Calls Try.prog 19 #[.slice A l.length c, .agg #[.int .i64 r1, .int .i64 r2]] w fun e w' => ∃ v, e = .returned v ∧ kq.R 37 w' w.heap.size (fun _ => True) v (partRun l (r1, r2) (marks (l ++ [(r1, r2)])) []) ∧ Below w.heap.size w w' := by
  have HR := Lib.hid hr
  have b0 : decide (r2 < 1) = false := decide_eq_false h1
  have hbx : Below w.heap.size w (w.alloc (.cells #[.int .i64 r1, .int .i64 r2] 28)) := (Below.refl _ _).alloc (Nat.le_refl _) _
  have h3 : (w.alloc (.cells #[.int .i64 r1, .int .i64 r2] 28)).heap[w.heap.size]? = some (.cells #[.int .i64 r1, .int .i64 r2] 28 (0, 0)) := heap_alloc_new _ _
  obtain ⟨wx, hwx⟩ : ∃ wx, wx = (w.alloc (.cells #[.int .i64 r1, .int .i64 r2] 28)) := ⟨_, rfl⟩
  go_enter Try.func19, Try.ntmps19
  clear h1 hr
  go_upto_region 4 with (fail)
  rw [← hwx] at hbx h3 ⊢
  have HBX := Lib.hid hbx
  have H3 := Lib.hid h3
  clear hbx h3 hwx
  go_cut [6] (fun v6 wc => ki.R 3 wc wx.heap.size (fun _ => True) v6 (marks (l ++ [(r1, r2)])) ∧ Below wx.heap.size wx wc)
  case first =>
    have k0 : wx.cell? ⟨w.heap.size, 0, none⟩ = some (.int .i64 r1) := by simp [World.cell?, H3.out]
    have k1 : wx.cell? ⟨w.heap.size, 1, none⟩ = some (.int .i64 r2) := by simp [World.cell?, H3.out]
    have l3 : w.heap.size < wx.heap.size := (Array.getElem?_eq_some_iff.1 H3.out).1
    go_region_held3 (fun wh => wh.cell? ⟨w.heap.size, 0, none⟩ = some (.int .i64 r1) ∧ wh.cell? ⟨w.heap.size, 1, none⟩ = some (.int .i64 r2))
     (first | exact ⟨x0, x1⟩ | exact ⟨p0, p1⟩ | exact ⟨q0, q1⟩ | go_keep)
     (first
      | (refine Kd.R_append_rows_step kp (w0 := wx) (W := wx.drew.alloc (.cells #[] 28)) wx.heap.size (by rfl) (.tmp 15) (.tmp 16) 22 28 (.agg #[.int .i64 0, .int .i64 0]) 16 rfl Try.underlying22 info28 rfl (by decide) (by omega) (.slice (some ⟨wx.heap.size, 0, none⟩) 0 0) [] l A l.length c (fun _ => True) (fun _ => False) (by rfl) (by rfl) (lit_R (heap_alloc_new wx.drew _) (by omega)) (Rr := kp.K (wx.drew.alloc (.cells #[] 28))) (Kd.C_alloc (Kd.C_drew (Kd.C_below HR.out HBX.out)) _) (fun x cs h => h) (fun _ hk => hk.elim) (fun _ _ => trivial) ((Below.refl _ _).drew.alloc (Nat.le_refl _) _) (by simp) (by simp; omega) ?_; intro v17 w17 ho17 hb17 hg17 hn17; have q0 := (hb17.cell (p := ⟨w.heap.size, 0, none⟩) l3).trans k0; have q1 := (hb17.cell (p := ⟨w.heap.size, 1, none⟩) l3).trans k1; have HO17 := Lib.hid ho17; have HB17 := Lib.hid hb17; clear ho17 hb17 hg17 hn17)
      | (refine Kd.R_append_rows_step kp (w0 := wx) (W := (wx.drew.alloc (.cells #[] 28)).alloc (.cells #[.int .i64 r1, .int .i64 r2] 28)) wx.heap.size (by rfl) (.tmp 15) (.tmp 16) 22 28 (.agg #[.int .i64 0, .int .i64 0]) 16 rfl Try.underlying22 info28 rfl (by decide) (by omega) (.slice (some ⟨wx.heap.size, 0, none⟩) 0 0) [] l A l.length c (fun _ => True) (fun _ => False) (by rfl) (by rfl) (lit_R (blk_alloc (heap_alloc_new wx.drew _) _) (by omega)) (Rr := kp.K ((wx.drew.alloc (.cells #[] 28)).alloc (.cells #[.int .i64 r1, .int .i64 r2] 28))) (Kd.C_alloc (Kd.C_alloc (Kd.C_drew (Kd.C_below HR.out HBX.out)) _) _) (fun x cs h => h) (fun _ hk => hk.elim) (fun _ _ => trivial) (((Below.refl _ _).drew.alloc (Nat.le_refl _) _).alloc (by simp) _) (by simp; omega) (by simp; omega) ?_; intro v17 w17 ho17 hb17 hg17 hn17; have H19 := Lib.hid ((hg17.block (wx.heap.size + 1) (by simp) (by simp [Value.ownBlock])).trans (new2 wx.drew _ _)); have q0 := (hb17.cell (p := ⟨w.heap.size, 0, none⟩) l3).trans k0; have q1 := (hb17.cell (p := ⟨w.heap.size, 1, none⟩) l3).trans k1; have HO17 := Lib.hid ho17; have HB17 := Lib.hid hb17; clear ho17 hb17 hg17 hn17)
      | (refine Kd.R_append_rows_step kp (w0 := wx) (W := (wx.drew.alloc (.cells #[.int .i64 r1, .int .i64 r2] 28)).alloc (.cells #[] 28)) wx.heap.size (by rfl) (.tmp 15) (.tmp 16) 22 28 (.agg #[.int .i64 0, .int .i64 0]) 16 rfl Try.underlying22 info28 rfl (by decide) (by omega) (.slice (some ⟨wx.heap.size + 1, 0, none⟩) 0 0) [] l A l.length c (fun _ => True) (fun _ => False) (by rfl) (by rfl) (lit_R (new2 wx.drew _ _) (by omega)) (Rr := kp.K ((wx.drew.alloc (.cells #[.int .i64 r1, .int .i64 r2] 28)).alloc (.cells #[] 28))) (Kd.C_alloc (Kd.C_alloc (Kd.C_drew (Kd.C_below HR.out HBX.out)) _) _) (fun x cs h => h) (fun _ hk => hk.elim) (fun _ _ => trivial) (((Below.refl _ _).drew.alloc (Nat.le_refl _) _).alloc (by simp) _) (by simp; omega) (by simp; omega) ?_; intro v17 w17 ho17 hb17 hg17 hn17; have H19 := Lib.hid ((hg17.block wx.heap.size (by simp; omega) (by simp [Value.ownBlock])).trans (blk_alloc (heap_alloc_new wx.drew _) _)); have q0 := (hb17.cell (p := ⟨w.heap.size, 0, none⟩) l3).trans k0; have q1 := (hb17.cell (p := ⟨w.heap.size, 1, none⟩) l3).trans k1; have HO17 := Lib.hid ho17; have HB17 := Lib.hid hb17; clear ho17 hb17 hg17 hn17)
      | (refine Kd.R_append_step kp (w0 := wx) (W := w17) wx.heap.size (by rfl) (.tmp 17) (.tmp 19) 22 28 (.agg #[.int .i64 0, .int .i64 0]) 16 rfl Try.underlying22 info28 rfl (by decide) (by omega) v17 ([] ++ l) (r1, r2) [.int .i64 r1, .int .i64 r2] (fun _ => True) (fun _ => False) (by rfl) (by rfl) (kp_mk _ _ _ (r1, r2)) (fun _ hk => hk.elim) (fun _ _ => trivial) HO17.out HB17.out HB17.out.size (by simp; omega) ?_; intro v20 w20 ho20 hb20 hg20 hn20; obtain ⟨A20, c20, e20⟩ := Kd.R_slice ho20; subst e20; have HM := Lib.hid (marks_at A20 c20 l (r1, r2) w20 hn (by simpa using (Kd.R_reads' ho20).2.2) (by simpa using (Kd.R_reads' ho20).2.1)); have p0 := (hb20.cell (p := ⟨w.heap.size, 0, none⟩) l3).trans k0; have p1 := (hb20.cell (p := ⟨w.heap.size, 1, none⟩) l3).trans k1; have HB20 := Lib.hid hb20; clear ho20 hb20 hg20 hn20)
      | (refine Kd.R_append_rows_step kp (w0 := wx) (W := w17) wx.heap.size (by rfl) (.tmp 17) (.tmp 19) 22 28 (.agg #[.int .i64 0, .int .i64 0]) 16 rfl Try.underlying22 info28 rfl (by decide) (by omega) v17 ([] ++ l) [(r1, r2)] (some ⟨wx.heap.size + 1, 0, none⟩) 1 1 (fun _ => True) (fun _ => False) (by rfl) (by rfl) HO17.out (Rr := kp.K w17) (lit_C H19.out) (fun x cs h => h) (fun _ hk => hk.elim) (fun _ _ => trivial) HB17.out HB17.out.size (by simp; omega) ?_; intro v20 w20 ho20 hb20 hg20 hn20; obtain ⟨A20, c20, e20⟩ := Kd.R_slice ho20; subst e20; have HM := Lib.hid (marks_at A20 c20 l (r1, r2) w20 hn (by simpa using (Kd.R_reads' ho20).2.2) (by simpa using (Kd.R_reads' ho20).2.1)); have p0 := (hb20.cell (p := ⟨w.heap.size, 0, none⟩) l3).trans k0; have p1 := (hb20.cell (p := ⟨w.heap.size, 1, none⟩) l3).trans k1; have HB20 := Lib.hid hb20; clear ho20 hb20 hg20 hn20)
      | (refine Kd.R_append_rows_step kp (w0 := wx) (W := w17) wx.heap.size (by rfl) (.tmp 17) (.tmp 19) 22 28 (.agg #[.int .i64 0, .int .i64 0]) 16 rfl Try.underlying22 info28 rfl (by decide) (by omega) v17 ([] ++ l) [(r1, r2)] (some ⟨wx.heap.size, 0, none⟩) 1 1 (fun _ => True) (fun _ => False) (by rfl) (by rfl) HO17.out (Rr := kp.K w17) (lit_C H19.out) (fun x cs h => h) (fun _ hk => hk.elim) (fun _ _ => trivial) HB17.out HB17.out.size (by simp; omega) ?_; intro v20 w20 ho20 hb20 hg20 hn20; obtain ⟨A20, c20, e20⟩ := Kd.R_slice ho20; subst e20; have HM := Lib.hid (marks_at A20 c20 l (r1, r2) w20 hn (by simpa using (Kd.R_reads' ho20).2.2) (by simpa using (Kd.R_reads' ho20).2.1)); have p0 := (hb20.cell (p := ⟨w.heap.size, 0, none⟩) l3).trans k0; have p1 := (hb20.cell (p := ⟨w.heap.size, 1, none⟩) l3).trans k1; have HB20 := Lib.hid hb20; clear ho20 hb20 hg20 hn20)
      | (go_at_call 42; (with_reducible refine (HM.out).mono ?_); rintro e w21 ⟨v21, rfl, ho21, hb21⟩; have x0 := (hb21.cell (p := ⟨w.heap.size, 0, none⟩) (Nat.lt_of_lt_of_le l3 HB20.out.size)).trans p0; have x1 := (hb21.cell (p := ⟨w.heap.size, 1, none⟩) (Nat.lt_of_lt_of_le l3 HB20.out.size)).trans p1))
    all_goals go_wp2
    all_goals go_meet
    all_goals (case rel => exact ⟨Kd.R_lower ho21 HB20.out.size, HB20.out.trans (hb21.mono HB20.out.size)⟩)
  case rest =>
    obtain ⟨hR6, hB6⟩ := hcut
    obtain ⟨wm, rfl⟩ : ∃ wm : World, wm = wc := ⟨_, rfl⟩
    have hml := marks_len (l ++ [(r1, r2)]) []
    have hml2 : (marks (l ++ [(r1, r2)])).length ≤ 3000 := by
      simp only [List.length_append, List.length_singleton, List.length_nil] at hml
      show (List.foldl step [] (l ++ [(r1, r2)])).length ≤ 3000
      omega
    clear hml
    generalize hms : marks (l ++ [(r1, r2)]) = ms at hR6 hml2
    have HMS := Lib.hid hms
    clear hms
    obtain ⟨A6, c6, e6⟩ := Kd.R_slice hR6
    subst e6
    obtain ⟨_, hc6, hC6⟩ := Kd.R_reads' hR6
    have HC6 := Lib.hid hC6
    have HB6 := Lib.hid hB6
    clear hR6 hB6 hC6
    have hz6 := HB6.out.size
    have l3 : w.heap.size < wx.heap.size := (Array.getElem?_eq_some_iff.1 H3.out).1
    go_wp2
    go_loopw [5, 7] (fun v5 v7 wr => ∃ (i : Nat) (out : List ((Int × Int) × Bool)), i ≤ ms.length ∧ v7 = .int .i64 i ∧ out.length ≤ i ∧ partRun l (r1, r2) (ms.drop i) out = partRun l (r1, r2) ms [] ∧ kq.R 37 wr wm.heap.size (fun _ => True) v5 out ∧ Below wm.heap.size wm wr) (fun _ v7 _ => ms.length - (intOf v7).toNat)
    case atStart => exact ⟨0, [], Nat.zero_le _, rfl, Nat.le_refl _, rfl, Kd.R_nil _ _ _ _ _, Below.refl _ _⟩
    case round =>
      obtain ⟨i, out, hi, rfl, hol, hrun, hown, hbw⟩ := hrel
      have HO := Lib.hid hown
      have HBW := Lib.hid hbw
      have HRUN := Lib.hid hrun
      have hzw := HBW.out.size
      clear hown hbw hrun
      have hi3 : i ≤ 3000 := by omega
      by_cases hlt : i + 1 < ms.length
      · have d0 : decide ((i : Int) + 1 < (ms.length : Int)) = true := decide_eq_true (by omega)
        have d1 : (i : Int) < (ms.length : Int) := by omega
        have d2 : (i : Int) + 1 < (ms.length : Int) := by omega
        have d3 : (0 : Int) ≤ (i : Int) + 1 := by omega
        have d4 : ((i : Int) + 1).toNat = i + 1 := by omega
        obtain ⟨ad6, hA6, ka⟩ := ki_C (Kd.C_below HC6.out HBW.out) i (by omega)
        subst hA6
        obtain ⟨ad7, hA7, kb⟩ := ki_C (Kd.C_below HC6.out HBW.out) (i + 1) hlt
        injection hA7 with hA7
        subst hA7
        have hdrop : ms.drop i = ms.getD i 0 :: ms.getD (i + 1) 0 :: ms.drop (i + 2) := by
          rw [List.drop_eq_getElem_cons (show i < ms.length by omega), List.drop_eq_getElem_cons hlt, List.getD_eq_getElem?_getD, List.getD_eq_getElem?_getD, List.getElem?_eq_getElem (show i < ms.length by omega), List.getElem?_eq_getElem hlt]; rfl
        have hdrop2 : ms.drop (i + 1) = ms.getD (i + 1) 0 :: ms.drop (i + 2) := by
          rw [List.drop_eq_getElem_cons hlt, List.getD_eq_getElem?_getD, List.getElem?_eq_getElem hlt]; rfl
        have hnext : partRun l (r1, r2) (ms.drop (i + 1)) (partStep l (r1, r2) out (ms.getD i 0) (ms.getD (i + 1) 0)) = partRun l (r1, r2) ms [] := by
          rw [← HRUN.out, hdrop, hdrop2]; rfl
        have HNX := Lib.hid hnext
        clear hnext hdrop hdrop2
        generalize ms.getD i 0 = a at *
        generalize ms.getD (i + 1) 0 = b at *
        have q0 : wr.cell? ⟨w.heap.size, 0, none⟩ = some (.int .i64 r1) := by
          have h := pair_of H3.out
          exact (HBW.out.cell (p := ⟨w.heap.size, 0, none⟩) (by simp; omega)).trans ((HB6.out.cell (p := ⟨w.heap.size, 0, none⟩) l3).trans h.1)
        have q1 : wr.cell? ⟨w.heap.size, 1, none⟩ = some (.int .i64 r2) := by
          have h := pair_of H3.out
          exact (HBW.out.cell (p := ⟨w.heap.size, 1, none⟩) (by simp; omega)).trans ((HB6.out.cell (p := ⟨w.heap.size, 1, none⟩) l3).trans h.2)
        have kb' : wr.cell? ⟨ad6.block, ad6.off + (i + 1), none⟩ = some (.int .i64 b) := by
          have e : ad6.add (i + 1) = ⟨ad6.block, ad6.off + (i + 1), none⟩ := by unfold Addr.add; rw [if_neg (by omega)]
          rw [← e]; exact kb
        go_upto_region 8 with (fail)
        go_cut [8, 9] (fun v8 v9 wd => v8 = .int .i64 a ∧ v9 = .int .i64 b ∧ wd = wr.drew)
        case first =>
          go_region
          all_goals go_wp2
          all_goals go_meet
          all_goals (case rel => exact ⟨rfl, rfl, rfl⟩)
        case rest =>
          obtain ⟨rfl, rfl, hwd⟩ := hcut
          have q0' : wc.cell? ⟨w.heap.size, 0, none⟩ = some (.int .i64 r1) := by rw [hwd]; exact q0
          have q1' : wc.cell? ⟨w.heap.size, 1, none⟩ = some (.int .i64 r2) := by rw [hwd]; exact q1
          have HO1 : Hid (kq.R 37 wc wm.heap.size (fun _ => True) u5 out) := Lib.hid (by rw [hwd]; exact Kd.R_drew HO.out)
          have HB1 : Hid (Below wm.heap.size wm wc) := Lib.hid (by rw [hwd]; exact HBW.out.drew)
          clear q0 q1 HO HBW hwd ka kb kb' d1 d2 d3 d4 hzw
          have hz1 := HB1.out.size
          by_cases hskip : a < r1 ∨ wrap64 (r1 + r2) < b
          · by_cases h1 : a < r1
            · have d1 : decide (a < r1) = true := decide_eq_true h1
              go_wp2
              go_roundw
              case rel => exact ⟨i + 1, out, by omega, by go_num, by omega, by have h := HNX.out; unfold partStep at h; rw [if_pos hskip] at h; exact h, HO1.out, HB1.out⟩
              case measure => simp [intOf]; omega
            · have d1 : decide (a < r1) = false := decide_eq_false h1
              have d2 : decide (wrap64 (r1 + r2) < b) = true := decide_eq_true (hskip.resolve_left h1)
              go_wp2
              go_roundw
              case rel => exact ⟨i + 1, out, by omega, by go_num, by omega, by have h := HNX.out; unfold partStep at h; rw [if_pos hskip] at h; exact h, HO1.out, HB1.out⟩
              case measure => simp [intOf]; omega
          · have d1 : decide (a < r1) = false := decide_eq_false (fun h => hskip (.inl h))
            have d2 : decide (wrap64 (r1 + r2) < b) = false := decide_eq_false (fun h => hskip (.inr h))
            have hnx := HNX.out
            unfold partStep at hnx
            rw [if_neg hskip] at hnx
            have HNY := Lib.hid hnx
            clear hnx HNX hskip
            have HHB := Lib.hid (hasB_any A c l a wc (by omega) (Kd.C_below HR.out (HBX.out.trans ((HB6.out.trans (HB1.out.mono hz6)).mono (by omega)))) hc)
            rcases List.eq_nil_or_concat out with rfl | ⟨ot, x, rfl⟩
            · obtain ⟨A5, c5, e5⟩ := Kd.R_slice HO1.out
              subst e5
              go_wp2_with (first
                | (go_at_call 43; (with_reducible refine (HHB.out).mono ?_); rintro e w1 ⟨rfl, hb1⟩; have HO2 := Lib.hid (Kd.R_below HO1.out hb1); have HB2 := Lib.hid (HB1.out.trans (hb1.mono HB1.out.size)); clear hb1)
                | ((with_reducible refine gate_builtin (b := .append) (xs := #[.tmp 82, .tmp 90]) rfl ?_); at_builtin; (refine Kd.R_append kq (w0 := wm) wm.heap.size rfl (.tmp 82) (.tmp 90) 31 37 (.agg #[.int .i64 0, .int .i64 0, .bool false]) 24 rfl Try.underlying31 info37 rfl (by decide) (by omega) (.slice A5 0 c5) [] ((a, wrap64 (b - a)), hasB l a) [.int .i64 a, .int .i64 (wrap64 (b - a)), .bool (hasB l a)] (fun _ => True) (fun _ => False) rfl rfl (kq_mk _ _ _ ((a, wrap64 (b - a)), hasB l a)) (fun _ hk => hk.elim) (fun _ _ => trivial) HO2.out HB2.out HB2.out.size (by first | (simp; done) | (simp at hol ⊢; omega)) ?_; intro v3 w3 ho3 hb3 hg3 hn3; have HO3 := Lib.hid ho3; have HB3 := Lib.hid hb3; clear ho3 hb3 hg3 hn3)))
              go_roundw
              case rel => exact ⟨i + 1, _, by omega, by go_num, by simp, HNY.out, HO3.out, HB3.out⟩
              case measure => simp [intOf]; omega
            · rw [List.concat_eq_append] at *
              have hl1 : (ot ++ [x]).length = ot.length + 1 := by simp
              obtain ⟨g5, c5, e5, hg5, _, _⟩ := Kd.R_form HO1.out (by rw [hl1]; omega)
              subst e5
              have hgl : (ot ++ [x]).getLast? = some x := by simp
              have hny := HNY.out
              rw [hgl] at hny
              simp only [hl1, Nat.add_sub_cancel] at hny
              clear HNY
              have HNY := Lib.hid hny
              clear hny hgl
              rw [hl1] at HO1 hol ⊢
              obtain ⟨⟨x0, x1⟩, xb⟩ := x
              have hat : (ot ++ [((x0, x1), xb)]).getD ot.length ((0, 0), false) = ((x0, x1), xb) := by rw [List.getD_eq_getElem?_getD]; simp
              have HAT := Lib.hid hat
              clear hat
              have f1 : (0 : Int) < (ot.length : Int) + 1 := by omega
              have f2 : (ot.length : Int) < (ot.length : Int) + 1 := by omega
              have FR : Hid (∀ w1 : World, kq.R 37 w1 wm.heap.size (fun _ => True) (.slice (some ⟨g5, 0, none⟩) (ot.length + 1) c5) (ot ++ [((x0, x1), xb)]) → w1.cell? ⟨g5, ot.length * 3, none⟩ = some (.int .i64 x0) ∧ w1.cell? ⟨g5, ot.length * 3 + 1, none⟩ = some (.int .i64 x1) ∧ w1.cell? ⟨g5, ot.length * 3 + 2, none⟩ = some (.bool xb) ∧ w1.frozen? ⟨g5, ot.length * 3 + 1, none⟩ = false) := Lib.hid (fun w1 h => by
                obtain ⟨cs, hcl, hM, hcc, hff⟩ := Kd.R_elem h ((0, 0), false) (ot.length : Int) (by omega) (by omega)
                rw [Int.toNat_natCast, HAT.out] at hM
                rw [Int.toNat_natCast] at hcc hff
                obtain rfl := kq_open hM
                exact ⟨hcc 0 _ rfl, hcc 1 _ rfl, hcc 2 _ rfl, hff 1⟩)
              by_cases hsame : xb = hasB l a
              · have hny := HNY.out
                rw [if_pos hsame] at hny
                have HNZ := Lib.hid hny
                clear hny HNY
                have d3 : (xb == hasB l a) = true := by rw [hsame]; simp
                go_upto_region 13 with (first
                  | (go_at_call 43; (with_reducible refine (HHB.out).mono ?_); rintro e w1 ⟨rfl, hb1⟩; have HO2 := Lib.hid (Kd.R_below HO1.out hb1); have HB2 := Lib.hid (HB1.out.trans (hb1.mono HB1.out.size)); clear hb1; obtain ⟨y0, y1, y2, y3⟩ := FR.out w1 HO2.out))
                go_wp2_with ((with_reducible refine gate_store (t := 3) (p := 81) (v := .tmp 78) rfl ?_); (refine Kd.R_store kq (w0 := wm) wm.heap.size rfl rfl 3 (.tmp 81) (.tmp 78) rfl 37 (g := g5) (n := ot.length + 1) (cap := c5) (o' := ot.length * 3 + 1) (ot.length : Int) 1 (ot ++ [((x0, x1), xb)]) ((x0, wrap64 (x1 + wrap64 (b - a))), xb) (.int .i64 (wrap64 (x1 + wrap64 (b - a)))) [.int .i64 (wrap64 (x1 + wrap64 (b - a)))] [.int .i64 x0, .int .i64 x1, .bool xb] (fun _ => True) (fun k => k ≠ g5) rfl rfl rfl rfl (by kernel_rfl) (by simp [Value.oneCell']) HO2.out (by omega) (by omega) rfl (fun j u hu => by match j, hu with | 0, hu => (simp at hu; subst hu; exact y0) | 1, hu => (simp at hu; subst hu; exact y1) | 2, hu => (simp at hu; subst hu; exact y2) | j + 3, hu => simp at hu) (by show 1 + 1 ≤ 3; decide) (kq_mk _ _ _ ((x0, wrap64 (x1 + wrap64 (b - a))), xb)) (fun k hk => ⟨trivial, hk⟩) HB2.out ?_; intro w3 ho3 hb3 hg3; have HO3 := Lib.hid ho3; have HB3 := Lib.hid hb3; clear ho3 hb3 hg3))
                go_roundw
                case rel => exact ⟨i + 1, _, by omega, by go_num, by simp at hol ⊢; omega, HNZ.out, by have h := HO3.out; rw [Int.toNat_natCast] at h; exact h, HB3.out⟩
                case measure => simp [intOf]; omega
              · have hny := HNY.out
                rw [if_neg hsame] at hny
                have HNZ := Lib.hid hny
                clear hny HNY
                have d3 : (xb == hasB l a) = false := by simpa using hsame
                go_wp2_with (first
                  | (go_at_call 43; (with_reducible refine (HHB.out).mono ?_); rintro e w1 ⟨rfl, hb1⟩; have HO2 := Lib.hid (Kd.R_below HO1.out hb1); have HB2 := Lib.hid (HB1.out.trans (hb1.mono HB1.out.size)); clear hb1; obtain ⟨y0, y1, y2, y3⟩ := FR.out w1 HO2.out)
                  | ((with_reducible refine gate_builtin (b := .append) (xs := #[.tmp 82, .tmp 90]) rfl ?_); at_builtin; refine Kd.R_append kq (w0 := wm) wm.heap.size rfl (.tmp 82) (.tmp 90) 31 37 (.agg #[.int .i64 0, .int .i64 0, .bool false]) 24 rfl Try.underlying31 info37 rfl (by decide) (by omega) (.slice (some ⟨g5, 0, none⟩) (ot.length + 1) c5) (ot ++ [((x0, x1), xb)]) ((a, wrap64 (b - a)), hasB l a) [.int .i64 a, .int .i64 (wrap64 (b - a)), .bool (hasB l a)] (fun _ => True) (fun _ => False) rfl rfl (kq_mk _ _ _ ((a, wrap64 (b - a)), hasB l a)) (fun _ hk => hk.elim) (fun _ _ => trivial) HO2.out HB2.out HB2.out.size (by first | (simp; done) | (simp at hol ⊢; omega)) ?_; intro v3 w3 ho3 hb3 hg3 hn3; have HO3 := Lib.hid ho3; have HB3 := Lib.hid hb3; clear ho3 hb3 hg3 hn3))
                go_roundw
                case rel => exact ⟨i + 1, _, by omega, by go_num, by simp at hol ⊢; omega, HNZ.out, HO3.out, HB3.out⟩
                case measure => simp [intOf]; omega
      · have d0 : decide ((i : Int) + 1 < (ms.length : Int)) = false := decide_eq_false (by omega)
        have hfin : partRun l (r1, r2) ms [] = out := by
          rw [← HRUN.out]
          have hlen : (ms.drop i).length ≤ 1 := by simp; omega
          match h : ms.drop i, hlen with
          | [], _ => rfl
          | [x], _ => rfl
        have HF := Lib.hid hfin
        clear hfin
        go_wp2
        go_ret
        rw [HMS.out, HF.out]
        exact ⟨_, rfl, Kd.R_lower HO.out (by omega), HBX.out.trans ((HB6.out.trans (HBW.out.mono hz6)).mono (by omega))⟩
theorem parts_none (v : Value) (r1 r2 : Int) (w : World) (h1 : r2 < 1) :
    Calls Try.prog 19 #[v, .agg #[.int .i64 r1, .int .i64 r2]] w fun e w' => e = .returned (.slice none 0 0) ∧ Below w.heap.size w w' := by
  have b0 : decide (r2 < 1) = true := decide_eq_true h1
  clear h1
  go_enter Try.func19, Try.ntmps19
  go_wp2
  go_ret
  exact ⟨rfl, (Below.refl _ _).alloc (Nat.le_refl _) _⟩
/-- The reference's parts of a range. -/
theorem parts_all (A : Option Addr) (c : Nat) (l : List (Int × Int)) (r : Int × Int) (w : World) (hn : l.length ≤ 1000) (hr : kp.C w A l.length l) (hc : l.length ≤ c) :
    Calls Try.prog 19 #[.slice A l.length c, .agg #[.int .i64 r.1, .int .i64 r.2]] w fun e w' => ∃ v, e = .returned v ∧ kq.R 37 w' w.heap.size (fun _ => True) v (partsB l r) ∧ Below w.heap.size w w' := by
  by_cases h1 : r.2 < 1
  · have e : partsB l r = [] := if_pos h1
    rw [e]
    refine (parts_none _ r.1 r.2 w h1).mono ?_
    rintro e w' ⟨rfl, hb⟩
    exact ⟨_, rfl, Kd.R_nil _ _ _ _ _, hb⟩
  · have e : partsB l r = partRun l r (marks (l ++ [r])) [] := if_neg h1
    rw [e]
    exact parts_any A c l r.1 r.2 w hn hr hc h1
end Go.Proofs.Ytfegihmnpcjdgaa.Marks
