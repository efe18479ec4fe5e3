import Derived.Test.YtfegihmnpcjdgaaRang12
namespace Go.Proofs.Ytfegihmnpcjdgaa.Rang
open Go.RowKit Go.Proofs.YtfegihmnpcjdgaaW.PrintWords Go.Proofs.YtfegihmnpcjdgaaW.PrintMore Go.Proofs.YtfegihmnpcjdgaaW.PrintLast
set_option linter.unusedVariables false
set_option linter.unusedSimpArgs false
theorem info28 : (Try.prog.info? 28).map (fun i => (i.zero, i.size, i.bytes)) = some (some (.agg #[(.int .i64 0), (.int .i64 0)]), 2, 16) := by kernel_rfl

set_option maxHeartbeats 8000000 in
set_option maxRecDepth 100000 in
/-- TELLALL: a set, told. -/
theorem tell_any (A : Option Addr) (c : Nat) (l : List (Int × Int)) (w : World) (hn : l.length ≤ 1000000) (hr : kp.C w A l.length l) (hc : l.length ≤ c) :
    Calls Try.prog 37 #[.slice A l.length c] w fun e w' => ∃ v, e = .returned v ∧ kp.R 28 w' w.heap.size (fun _ => True) v l ∧ Below w.heap.size w w' := by
  have HR := Lib.hid hr
  clear hr
  go_enter Try.func37, Try.ntmps37
  go_wp2
  go_loopw [3, 8] (fun v3 v8 wr => ∃ i : Nat, i ≤ l.length ∧ v8 = .int .i64 i ∧ kp.R 28 wr w.heap.size (fun _ => True) v3 (l.take i) ∧ Below w.heap.size w wr) (fun _ v8 _ => l.length - (intOf v8).toNat)
  case atStart => exact ⟨0, Nat.zero_le _, rfl, Kd.R_nil _ _ _ _ _, Below.refl _ _⟩
  case round =>
    obtain ⟨i, hi, rfl, ho, hb⟩ := hrel
    have HO := Lib.hid ho
    have HB := Lib.hid hb
    clear ho hb
    by_cases hlt : i < l.length
    · have b0 : decide ((i : Int) < (l.length : Int)) = true := decide_eq_true (by omega)
      have b1 : (i : Int) < (l.length : Int) := by omega
      obtain ⟨ad, rfl, c0, c1⟩ := kp_C (Kd.C_below HR.out HB.out) i hlt
      have htk : l.take i ++ [((el l i).1, (el l i).2)] = l.take (i + 1) := by rw [List.take_succ_eq_append_getElem hlt, el_get]
      have HTK := Lib.hid htk
      clear htk
      obtain ⟨A3, c3, e3⟩ := Kd.R_slice HO.out
      subst e3
      have hl3 : (l.take i).length ≤ 1000000 := by simp; omega
      generalize l.take i = tk at *
      generalize (el l i).1 = y1 at *
      generalize (el l i).2 = y2 at *
      go_wp2_with (first
        | (go_at_call 45; (with_reducible refine (told_is _ _ _).mono ?_); rintro e w1 ⟨rfl, hb1⟩; have HB1 := Lib.hid ((HB.out.alloc HB.out.size _).trans (hb1.mono (by have := HB.out.size; simp; omega))); have HO1 := Lib.hid (Kd.R_below HO.out (((Below.refl _ _).alloc (Nat.le_refl _) _).trans (hb1.mono (by simp)))); clear hb1)
        | ((with_reducible refine gate_builtin (b := .append) (xs := #[.tmp 12, .tmp 15]) rfl ?_); at_builtin; refine Kd.R_append kp (w0 := w) w.heap.size rfl (.tmp 12) (.tmp 15) 22 28 (.agg #[.int .i64 0, .int .i64 0]) 16 rfl Try.underlying22 info28 rfl (by decide) (by omega) (.slice A3 tk.length c3) tk (y1, y2) [.int .i64 y1, .int .i64 y2] (fun _ => True) (fun _ => False) rfl rfl (kp_mk _ _ _ (y1, y2)) (fun _ hk => hk.elim) (fun _ _ => trivial) HO1.out HB1.out HB1.out.size (by omega) ?_; intro v3 w3 ho3 hb3 hg3 hn3; have HO3 := Lib.hid ho3; have HB3 := Lib.hid hb3; clear ho3 hb3 hg3 hn3))
      go_roundw
      case rel => exact ⟨i + 1, by omega, by go_num, HTK.out ▸ HO3.out, HB3.out⟩
      case measure => simp [intOf]; omega
    · have b0 : decide ((i : Int) < (l.length : Int)) = false := decide_eq_false (by omega)
      go_wp2
      go_ret
      have e : l.take i = l := List.take_of_length_le (by omega)
      have h := HO.out
      rw [e] at h
      exact ⟨_, rfl, h, HB.out⟩

set_option maxHeartbeats 8000000 in
theorem inter_nil (r1 r2 : Int) (w : World) :
    Calls Try.prog 46 #[.slice none 0 0, .agg #[.int .i64 r1, .int .i64 r2]] w fun e w' => e = .returned (.slice none 0 0) ∧ Below w.heap.size w w' := by
  go_enter Try.func46, Try.ntmps46
  go_wp2
  refine bodyPost_ret (v := .slice none 0 0) (by simp [results, Try.results46, go_sem]) rfl ⟨rfl, ?_⟩
  repeat (first | exact Below.refl _ _ | refine Below.setCell ?_ (by simp) _ | refine Below.alloc ?_ (by simp) _)
theorem inter_empty (v : Value) (r1 r2 : Int) (w : World) (hv : v = .slice none 0 0) :
    Calls Try.prog 46 #[v, .agg #[.int .i64 r1, .int .i64 r2]] w fun e w' => e = .returned (.slice none 0 0) ∧ Below w.heap.size w w' := by
  subst hv; exact inter_nil r1 r2 w
/-- What RangesCut makes. -/
def cutOf (k : Nat) (l : List (Int × Int)) (r : Int × Int) : Option (List (Int × Int)) :=
  if (l.foldl ins []).isEmpty then some [] else (cutF (l.foldl ins []) k r []).bind fun res => if res.length ≤ 1000000 then some res else none
/-- The set and its cut, in one contract. -/
theorem inter_all (k : Nat) (A : Option Addr) (c : Nat) (xs : List (Int × Int)) (r : Int × Int) (res : List (Int × Int)) (w : World) (hn : xs.length ≤ 1000000) (hr : kp.C w A xs.length xs) (hnil : xs = [] → A = none ∧ c = 0)
    (h : (if xs.isEmpty then some [] else cutF xs k r []) = some res) :
    Calls Try.prog 46 #[.slice A xs.length c, .agg #[.int .i64 r.1, .int .i64 r.2]] w fun e w' => ∃ v, e = .returned v ∧ kp.R 61 w' w.heap.size (fun _ => True) v res ∧ Below w.heap.size w w' := by
  by_cases hx : xs = []
  · subst hx
    obtain ⟨rfl, rfl⟩ := hnil rfl
    obtain rfl : ([] : List (Int × Int)) = res := Option.some.inj h
    refine (inter_nil r.1 r.2 w).mono ?_
    rintro e w' ⟨rfl, hb⟩
    exact ⟨_, rfl, Kd.R_nil _ _ _ _ _, hb⟩
  · rw [if_neg (by simpa using hx)] at h
    refine (inter_set k A c xs r.1 r.2 res w hn hr hx h).mono ?_
    rintro e w' ⟨v, rfl, hR, hb, _⟩
    exact ⟨v, rfl, hR, hb⟩

set_option maxHeartbeats 8000000 in
set_option maxRecDepth 100000 in
/-- RANGESCUT. -/
theorem rangesCut_any (k : Nat) (A : Option Addr) (c : Nat) (l : List (Int × Int)) (r1 r2 : Int) (res : List (Int × Int)) (w : World) (hn : l.length ≤ 800000) (hr : kp.C w A l.length l) (hc : l.length ≤ c) (h : cutOf k l (r1, r2) = some res) :
    Calls Try.prog 23 #[.slice A l.length c, .agg #[.int .i64 r1, .int .i64 r2]] w fun e w' => ∃ v, e = .returned v ∧ kp.R 28 w' w.heap.size (fun _ => True) v res ∧ Below w.heap.size w w' := by
  have hlen := fold_len l []
  have hlen2 : (l.foldl ins []).length ≤ 1000000 := by simp at hlen; omega
  have hres : (if (l.foldl ins []).isEmpty then some [] else cutF (l.foldl ins []) k (r1, r2) []) = some res ∧ res.length ≤ 1000000 := by
    unfold cutOf at h
    by_cases hx : (l.foldl ins []).isEmpty = true
    · rw [if_pos hx] at h ⊢
      obtain rfl := Option.some.inj h
      exact ⟨rfl, by simp⟩
    · rw [if_neg hx] at h ⊢
      obtain ⟨q, hq, h⟩ := Option.bind_eq_some_iff.1 h
      by_cases hl : q.length ≤ 1000000
      · rw [if_pos hl] at h
        obtain rfl := Option.some.inj h
        exact ⟨hq, hl⟩
      · rw [if_neg hl] at h; cases h
  have hins := fun (w1 : World) (hb : Below w.heap.size w w1) => inserted_nil A c l w1 hn (fun k hk => by have := fold_len (l.take k) []; simp at this ⊢; omega) (Kd.C_below hr hb) hc
  have HINS := Lib.hid hins
  have HRES := Lib.hid hres
  have h3 : (w.alloc (.cells #[.int .i64 r1, .int .i64 r2] 28)).heap[w.heap.size]? = some (.cells #[.int .i64 r1, .int .i64 r2] 28 (0, 0)) := heap_alloc_new _ _
  have hb3 : Below w.heap.size w (w.alloc (.cells #[.int .i64 r1, .int .i64 r2] 28)) := (Below.refl _ _).alloc (Nat.le_refl _) _
  obtain ⟨wx, hwx⟩ : ∃ wx, wx = (w.alloc (.cells #[.int .i64 r1, .int .i64 r2] 28)) := ⟨_, rfl⟩
  go_enter Try.func23, Try.ntmps23
  clear hr h hlen hres hins
  generalize l.foldl ins [] = xs at *
  go_upto_region 1 with (fail)
  rw [← hwx] at h3 hb3 ⊢
  obtain ⟨k0, k1, _, _⟩ := pair_cells h3
  have l3 : w.heap.size < wx.heap.size := (Array.getElem?_eq_some_iff.1 h3).1
  have HB := Lib.hid hb3
  clear h3 hb3 hwx
  go_region_held3 (fun wh => wh.cell? ⟨w.heap.size, 0, none⟩ = some (.int .i64 r1) ∧ wh.cell? ⟨w.heap.size, 1, none⟩ = some (.int .i64 r2))
    (first | exact ⟨z0, z1⟩ | exact ⟨y0, y1⟩ | exact ⟨x0, x1⟩ | exact ⟨p0, p1⟩ | exact ⟨q0, q1⟩ | go_keep)
    (first
      | (go_at_call 38; (with_reducible refine (HINS.out _ HB8.out).mono ?_); rintro e w6 ⟨v6, rfl, ho6, hb6, hn6⟩; obtain ⟨A6, c6, e6⟩ := Kd.R_slice ho6; subst e6; have hn7 : xs = [] → A6 = none ∧ c6 = 0 := (fun hx => by have h := hn6 hx; injection h with h1 h2 h3; exact ⟨h1, h3⟩); have HN := Lib.hid hn7; clear hn6 hn7; have hbx := HX8.out.trans (hb6.mono HX8.out.size); have x0 := (hbx.cell (p := ⟨w.heap.size, 0, none⟩) l3).trans k0; have x1 := (hbx.cell (p := ⟨w.heap.size, 1, none⟩) l3).trans k1; have HRZ := Lib.hid ho6; have HBZ := Lib.hid (HB8.out.trans (hb6.mono HB8.out.size)); have HXZ := Lib.hid hbx; clear ho6 hb6 hbx)
      | (go_at_call 38; (with_reducible refine (HINS.out _ HB.out.drew).mono ?_); rintro e w6 ⟨v6, rfl, ho6, hb6, hn6⟩; obtain ⟨A6, c6, e6⟩ := Kd.R_slice ho6; subst e6; have hn7 : xs = [] → A6 = none ∧ c6 = 0 := (fun hx => by have h := hn6 hx; injection h with h1 h2 h3; exact ⟨h1, h3⟩); have HN := Lib.hid hn7; clear hn6 hn7; have hbx : Below wx.heap.size wx w6 := (Below.refl _ _).drew.trans hb6; have q0 := (hbx.cell (p := ⟨w.heap.size, 0, none⟩) l3).trans k0; have q1 := (hbx.cell (p := ⟨w.heap.size, 1, none⟩) l3).trans k1; have HR6 := Lib.hid ho6; have HB6 := Lib.hid (HB.out.drew.trans (hb6.mono HB.out.size)); have HX6 := Lib.hid hbx; clear ho6 hb6 hbx)
      | (go_at_call 41; (with_reducible refine (given_is _ _ _).mono ?_); rintro e w8 ⟨rfl, hb8⟩; have hbx := HX6.out.trans (hb8.mono HX6.out.size); have x0 := (hbx.cell (p := ⟨w.heap.size, 0, none⟩) l3).trans k0; have x1 := (hbx.cell (p := ⟨w.heap.size, 1, none⟩) l3).trans k1; have HRZ := Lib.hid (Kd.R_below HR6.out hb8); have HBZ := Lib.hid (HB6.out.trans (hb8.mono HB6.out.size)); have HXZ := Lib.hid hbx; clear hb8 hbx)
      | (go_at_call 41; (with_reducible refine (given_is _ _ _).mono ?_); rintro e w8 ⟨rfl, hb8⟩; have hbx : Below wx.heap.size wx w8 := (Below.refl _ _).drew.trans hb8; have p0 := (hbx.cell (p := ⟨w.heap.size, 0, none⟩) l3).trans k0; have p1 := (hbx.cell (p := ⟨w.heap.size, 1, none⟩) l3).trans k1; have HB8 := Lib.hid (HB.out.drew.trans (hb8.mono HB.out.size)); have HX8 := Lib.hid hbx; clear hb8 hbx)
      | (go_at_call 46; (with_reducible refine (inter_all k A6 c6 xs (r1, r2) res _ hlen2 (Kd.R_reads' HRZ.out).2.2 HN.out HRES.out.1).mono ?_); rintro e w9 ⟨v9, rfl, ho9, hb9⟩; obtain ⟨A9, c9, e9⟩ := Kd.R_slice ho9; subst e9; have hbx := HXZ.out.trans (hb9.mono HXZ.out.size); have y0 := (hbx.cell (p := ⟨w.heap.size, 0, none⟩) l3).trans k0; have y1 := (hbx.cell (p := ⟨w.heap.size, 1, none⟩) l3).trans k1; have HR9 := Lib.hid ho9; have HB9 := Lib.hid (HBZ.out.trans (hb9.mono HBZ.out.size)); have HX9 := Lib.hid hbx; clear ho9 hb9 hbx)
      | (go_at_call 37; (with_reducible refine (tell_any A9 c9 res _ HRES.out.2 (Kd.R_reads' HR9.out).2.2 (Kd.R_reads' HR9.out).2.1).mono ?_); rintro e w10 ⟨v10, rfl, ho10, hb10⟩; have hbx := HX9.out.trans (hb10.mono HX9.out.size); have z0 := (hbx.cell (p := ⟨w.heap.size, 0, none⟩) l3).trans k0; have z1 := (hbx.cell (p := ⟨w.heap.size, 1, none⟩) l3).trans k1; have HR10 := Lib.hid (Kd.R_lower ho10 HB9.out.size); have HB10 := Lib.hid (HB9.out.trans (hb10.mono HB9.out.size)); clear ho10 hb10 hbx))
  all_goals go_wp2
  all_goals go_ret
  all_goals exact ⟨_, rfl, HR10.out, HB10.out⟩
end Go.Proofs.Ytfegihmnpcjdgaa.Rang
