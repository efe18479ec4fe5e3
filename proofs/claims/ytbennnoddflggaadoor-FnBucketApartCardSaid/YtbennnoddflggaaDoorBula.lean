import Derived.Test.YtbennnoddflggaaDoorBuckPure
import Derived.Deep.DeepCutAuto
namespace Go.Proofs.YtbennnoddflggaaDoor.Buck
open Go.RowKit Go.Proofs.YtbennnoddflggaaDoor.PFnBucketApart Go.Proofs.YtbennnoddflggaaDoorW.PrintWords Go.Proofs.YtbennnoddflggaaDoorW.PrintMore Go.Proofs.YtbennnoddflggaaDoorW.PrintLast
set_option linter.unusedVariables false
set_option linter.unusedSimpArgs false
def six (x : S28) : Six := (x.f0, x.f1, x.f2, x.f3, x.f4, x.f5)
theorem six_C {w : World} {A : Option Addr} {l : List S28} (h : Kd.C k28 w A l.length l) : ks.C w A (l.map six).length (l.map six) := by
  rw [List.length_map]; exact C_iso h
theorem ka_open {w : World} {x : Ans} {cs : List Value} (h : ka.K w x cs) : cs = [.bool x.1, .bool x.2.1, .bool x.2.2.1, .int .i64 x.2.2.2] := by
  obtain ⟨_, _, rfl, rfl, ⟨_, _, rfl, rfl, ⟨_, _, rfl, rfl, rfl⟩⟩⟩ := h
  rfl
theorem ka_C {w : World} {A : Option Addr} {n : Nat} {xs : List Ans} (h : ka.C w A n xs) (i : Nat) (hi : i < xs.length) :
    ∃ ad, A = some ad ∧ w.cell? (ad.add (i * 4)) = some (.bool (xs[i]'hi).1) ∧ w.cell? ⟨(ad.add (i * 4)).block, (ad.add (i * 4)).off + 1, none⟩ = some (.bool (xs[i]'hi).2.1) ∧ w.cell? ⟨(ad.add (i * 4)).block, (ad.add (i * 4)).off + 2, none⟩ = some (.bool (xs[i]'hi).2.2.1) ∧ w.cell? ⟨(ad.add (i * 4)).block, (ad.add (i * 4)).off + 3, none⟩ = some (.int .i64 (xs[i]'hi).2.2.2) := by
  obtain ⟨ad, c, e, _, hK, hc0⟩ := Kd.C_get h no (i : Int) (by omega) (by have := h.1; omega)
  have hc : ∀ j u, c[j]? = some u → w.cell? (ad.add (i * 4 + j)) = some u := hc0
  have hx : xs.getD i no = xs[i]'hi := by simp [List.getD_eq_getElem?_getD, hi]
  rw [Int.toNat_natCast, hx] at hK
  obtain rfl := ka_open hK
  refine ⟨ad, e, hc 0 _ rfl, ?_, ?_, ?_⟩
  · rw [← add_field _ _ 1 (by omega)]; exact hc 1 _ rfl
  · rw [← add_field _ _ 2 (by omega)]; exact hc 2 _ rfl
  · rw [← add_field _ _ 3 (by omega)]; exact hc 3 _ rfl
theorem steps_get : ∀ (l : List Step) (f : St) (i : Nat) (h : i < l.length), (steps f l)[i]'(by rw [steps_len]; exact h) = (step (stAt f (l.take i)) l[i]).2
  | s :: l, f, 0, h => rfl
  | s :: l, f, i + 1, h => by
    simp only [steps, List.getElem_cons_succ, List.take_succ_cons, stAt]
    exact steps_get l (step f s).1 i (by simpa using h)
/-- A step that the law of one bucket speaks of. -/
def Fine (x : Six) : Prop := x.2.1.toList = ([98] : List UInt8) ∧ x.2.2.2.1 = false ∧ (x.1 = 3 ∨ x.1 = 4)
/-- What the cache knows, and the last step that went through. -/
def Inv (f : St) (nm : ByteArray) (last : Int) : Prop := (f nm = none ∧ last = -1) ∨ (f nm = some true ∧ last = 3) ∨ (f nm = some false ∧ last = 4)

theorem steps_at (A : Option Addr) (c : Nat) (l0 : List S28) (w W : World) (hn : l0.length ≤ 60) (hsz : ∀ x ∈ l0, x.f1.size ≤ 100) (hr : Kd.C k28 w A l0.length l0) (hc : l0.length ≤ c) (hglob : Glob w) (hb : Below w.heap.size w W) :
    Calls Tryd.prog 8 #[.slice A l0.length c] W fun e w' => ∃ v, e = .returned v ∧ ka.R 30 w' W.heap.size (fun _ => True) v (steps (fun _ => none) ((l0.map six).map toStep)) ∧ Below W.heap.size W w' := by
  obtain ⟨eg, ht⟩ := hglob.below hb
  have h := steps_any A c (l0.map six) W (by rw [List.length_map]; omega) (Kd.C_below (six_C hr) hb) (by rw [List.length_map]; exact hc) eg ht (fun x hx => by
    obtain ⟨y, hy, rfl⟩ := List.mem_map.1 hx
    have := hsz y hy
    unfold maxLen; show y.f1.size ≤ _; omega)
  rw [List.length_map] at h
  exact h
theorem fine_name {x : Six} (h : Fine x) : x.2.1 = (⟨#[98]⟩ : ByteArray) := by
  exact Plain.toList_inj (h.1.trans (by rw [Go.ByteArray.toList_eq]))
theorem inv_next {f : St} {last : Int} {x : Six} (h : Inv f (⟨#[98]⟩ : ByteArray) last) (hx : Fine x) :
    (step f (toStep x)).2.2.1 = (x.1 != last) ∧ Inv (step f (toStep x)).1 (⟨#[98]⟩ : ByteArray) (if ((x.1 != last) && x.2.2.1) = true then x.1 else last) := by
  have hnm := fine_name hx
  have h1 := once_step f (toStep x) last (by show x.2.1.toList ≠ _; rw [hx.1]; simp) hx.2.1 hx.2.2 (by rw [show (toStep x).name = (⟨#[98]⟩ : ByteArray) from hnm]; exact h)
  refine ⟨h1.1, ?_⟩
  have h2 := h1.2
  have e : (toStep x).name = (⟨#[98]⟩ : ByteArray) := hnm
  rw [e] at h2
  exact h2

set_option maxHeartbeats 4000000 in
theorem once_loop1 (A : Option Addr) (c : Nat) (l0 : List S28) (w : World) (hn : l0.length ≤ 60) (hsz : ∀ x ∈ l0, x.f1.size ≤ 100) (hr : Kd.C k28 w A l0.length l0) (hc : l0.length ≤ c) (hglob : Glob w) (k1 k2 : Nat) (h1 : laws_zzFits1.f k1 l0 = some true) (h2 : laws_bucketIn.f k2 l0 = some true) :
    Calls Tryd.prog 4 #[.slice A l0.length c] w fun e w' => e = .returned (.bool true) ∧ Below w.heap.size w w' := by
  have HR := Lib.hid hr
  have HC := Lib.hid hc
  have HG := Lib.hid hglob
  have H1 := Lib.hid h1
  have H2 := Lib.hid h2
  have HS := Lib.hid hsz
  have H6 := Lib.hid (six_C hr)
  have hl6 : (l0.map six).length = l0.length := List.length_map _
  have HL6 := Lib.hid hl6
  clear hr hc hglob h1 h2 hsz hl6
  go_enter Tryd.func4, Tryd.ntmps4
  go_wp2_with (first | (go_at_call 5; (with_reducible refine (laws_zzFits1.calls k1 A c l0 true _ HR.out HC.out H1.out).mono ?_); rintro e w1 ⟨rfl, hb1⟩; have HB1 := Lib.hid hb1; clear hb1) | (go_at_call 6; (with_reducible refine (laws_bucketIn.calls k2 A c l0 true _ (Kd.C_below HR.out HB1.out) HC.out H2.out).mono ?_); rintro e w2 ⟨rfl, hb2⟩; have HB2 := Lib.hid (HB1.out.trans (hb2.mono HB1.out.size)); clear hb2))
  go_loopw [17] (fun v17 wr => ∃ i : Nat, i ≤ l0.length ∧ v17 = .int .i64 i ∧ (∀ x ∈ (l0.map six).take i, Fine x) ∧ Below w.heap.size w wr) (fun v17 _ => l0.length - (intOf v17).toNat)
  case atStart => exact ⟨0, Nat.zero_le _, rfl, fun x hx => by simp at hx, HB2.out⟩
  case round =>
    obtain ⟨i, hi, rfl, hall, hb⟩ := hrel
    have HA := Lib.hid hall
    have HB := Lib.hid hb
    clear hall hb
    by_cases hl : i < l0.length
    · have b0 : decide ((i : Int) < (l0.length : Int)) = true := decide_eq_true (by omega)
      have b1 : (i : Int) < (l0.length : Int) := by omega
      obtain ⟨ad, rfl, x1, x2, x3, x4, x5, x6, hx, c0, c1, c2, c3, c4, c5⟩ := ks_C (Kd.C_below H6.out HB.out) i (by have := HL6.out; omega)
      have hnx : (l0.map six).take (i + 1) = (l0.map six).take i ++ [(x1, x2, x3, x4, x5, x6)] := by
        rw [List.take_succ_eq_append_getElem (by have := HL6.out; omega), hx]
      have HX := Lib.hid hnx
      clear hx hnx
      have hbw : Below w.heap.size w (wr.alloc (.cells #[.int .i64 x1, .string x2, .bool x3, .bool x4, .bool x5, .bool x6] 28)) := HB.out.alloc HB.out.size _
      have HBW := Lib.hid hbw
      clear hbw
      by_cases hnm : x2.toList = ([98] : List UInt8)
      · have n1 : (x2.toList == ([98] : List UInt8)) = true := beq_iff_eq.mpr hnm
        have n2 : (x2.toList != ([98] : List UInt8)) = false := by simp [hnm]
        cases x4
        · by_cases y3 : x1 = 3
          · subst y3
            have hf : ∀ x ∈ (l0.map six).take (i + 1), Fine x := fun x hx => by
              rw [HX.out] at hx
              rcases List.mem_append.1 hx with hx | hx
              · exact HA.out x hx
              · rw [List.mem_singleton.1 hx]; exact ⟨hnm, rfl, .inl rfl⟩
            have HF := Lib.hid hf
            clear hf hnm
            go_wp2
            go_roundw
            case rel => exact ⟨i + 1, by omega, by go_num, HF.out, HBW.out⟩
            case measure => simp [intOf]; omega
          · have z3 : (x1 == 3) = false := beq_eq_false_iff_ne.2 y3
            have z3' : (x1 != 3) = true := bne_iff_ne.2 y3
            by_cases y4 : x1 = 4
            · subst y4
              have hf : ∀ x ∈ (l0.map six).take (i + 1), Fine x := fun x hx => by
                rw [HX.out] at hx
                rcases List.mem_append.1 hx with hx | hx
                · exact HA.out x hx
                · rw [List.mem_singleton.1 hx]; exact ⟨hnm, rfl, .inr rfl⟩
              have HF := Lib.hid hf
              clear hf hnm y3
              go_wp2
              go_roundw
              case rel => exact ⟨i + 1, by omega, by go_num, HF.out, HBW.out⟩
              case measure => simp [intOf]; omega
            · have z4 : (x1 == 4) = false := beq_eq_false_iff_ne.2 y4
              have z4' : (x1 != 4) = true := bne_iff_ne.2 y4
              clear hnm y3 y4
              go_wp2
              go_ret
              exact ⟨rfl, HBW.out⟩
        · clear hnm
          go_wp2
          go_ret
          exact ⟨rfl, HBW.out⟩
      · have n1 : (x2.toList == ([98] : List UInt8)) = false := beq_eq_false_iff_ne.mpr hnm
        have n2 : (x2.toList != ([98] : List UInt8)) = true := bne_iff_ne.mpr hnm
        clear hnm
        go_wp2
        go_ret
        exact ⟨rfl, HBW.out⟩
    · have b0 : decide ((i : Int) < (l0.length : Int)) = false := decide_eq_false (by omega)
      have hfine : ∀ x ∈ l0.map six, Fine x := by
        have := HA.out
        rw [List.take_of_length_le (by have := HL6.out; omega)] at this
        exact this
      have HF := Lib.hid hfine
      clear hfine HA
      obtain ⟨wo, rfl⟩ : ∃ wo : World, wo = wr := ⟨_, rfl⟩
      have hst := steps_at A c l0 w
      have HST := Lib.hid (fun W hb => hst W hn HS.out HR.out HC.out HG.out hb)
      clear hst
      go_wp2_with (first
        | (go_at_call 7; (with_reducible refine (laws_bucketAwake.calls true _ (HG.out.below HB.out) awake).mono ?_); rintro e w3 ⟨rfl, hb3⟩; have HB3 := Lib.hid (HB.out.trans (hb3.mono HB.out.size)); clear hb3)
        | (go_at_call 8; (with_reducible refine (HST.out _ HB3.out).mono ?_); rintro e w4 ⟨v4, rfl, ho4, hb4⟩; have HB4 := Lib.hid (HB3.out.trans (hb4.mono HB3.out.size)); obtain ⟨A5, c5, e5⟩ := Kd.R_slice ho4; rw [steps_len, List.length_map, List.length_map] at e5; subst e5; have HO4 := Lib.hid (Kd.R_reads' ho4).2.2; clear ho4 hb4))
      go_loopw [6, 50] (fun v6 v50 wx => ∃ (j : Nat) (last : Int), j ≤ l0.length ∧ v50 = .int .i64 j ∧ v6 = .int .i64 last ∧ Inv (stAt (fun _ => none) (((l0.map six).map toStep).take j)) (⟨#[98]⟩ : ByteArray) last ∧ Below w.heap.size w wx ∧ Below w4.heap.size w4 wx) (fun _ v50 _ => l0.length - (intOf v50).toNat)
      case atStart => exact ⟨0, -1, Nat.zero_le _, rfl, rfl, .inl ⟨rfl, rfl⟩, HB4.out, Below.refl _ _⟩
      case round =>
        obtain ⟨j, last, hj, rfl, rfl, hinv, hb, hb4⟩ := hrel
        have HV := Lib.hid hinv
        have HBX := Lib.hid hb
        have HB5 := Lib.hid hb4
        clear hinv hb hb4
        by_cases hl2 : j < l0.length
        · have d0 : decide ((j : Int) < (l0.length : Int)) = true := decide_eq_true (by omega)
          have d1 : (j : Int) < (l0.length : Int) := by omega
          have hjl : j < (l0.map six).length := by have := HL6.out; omega
          have hjl2 : j < ((l0.map six).map toStep).length := by rw [List.length_map]; exact hjl
          obtain ⟨ad, rfl, x1, x2, x3, x4, x5, x6, hx, c0, c1, c2, c3, c4, c5'⟩ := ks_C (Kd.C_below H6.out HBX.out) j hjl
          obtain ⟨ad5, rfl, a0, a1, a2, a3⟩ := ka_C (Kd.C_below HO4.out HB5.out) j (by rw [steps_len]; exact hjl2)
          have hfin : Fine (x1, x2, x3, x4, x5, x6) := HF.out _ (by rw [← hx]; exact List.getElem_mem hjl)
          have hget := steps_get ((l0.map six).map toStep) (fun _ => none) j hjl2
          rw [hget] at a1
          have hts : ((l0.map six).map toStep)[j]'hjl2 = toStep (x1, x2, x3, x4, x5, x6) := by rw [List.getElem_map, hx]
          rw [hts] at a1
          obtain ⟨q1, q2⟩ := inv_next HV.out hfin
          have hst1 : stAt (fun _ => none) (((l0.map six).map toStep).take (j + 1)) = (step (stAt (fun _ => none) (((l0.map six).map toStep).take j)) (toStep (x1, x2, x3, x4, x5, x6))).1 := by
            rw [List.take_succ_eq_append_getElem hjl2, hts]
            exact (steps_snoc _ _ _).2
          rw [← hst1] at q2
          rw [q1] at a1
          have HQ := Lib.hid q2
          clear a0 a2 a3 hget hts hst1 q1 q2 hfin hx hjl hjl2
          have hbw : Below w.heap.size w (wr.alloc (.cells #[.int .i64 x1, .string x2, .bool x3, .bool x4, .bool x5, .bool x6] 28)) := HBX.out.alloc HBX.out.size _
          have hbw5 : Below w4.heap.size w4 (wr.alloc (.cells #[.int .i64 x1, .string x2, .bool x3, .bool x4, .bool x5, .bool x6] 28)) := HB5.out.alloc HB5.out.size _
          have HBW := Lib.hid hbw
          have HBW5 := Lib.hid hbw5
          clear hbw hbw5
          generalize hdd : (x1 != last) = dd at *
          cases dd
          · have a1w := pw_cell_below ((Below.refl _ _).alloc (Nat.le_refl _) (.cells #[.int .i64 x1, .string x2, .bool x3, .bool x4, .bool x5, .bool x6] 28)) a1
            go_upto_region 20 with (fail)
            go_region
            go_wp2
            go_roundw
            case rel => exact ⟨j + 1, last, by omega, by go_num, rfl, (by have h := HQ.out; simpa using h), HBW.out.drew, HBW5.out.drew⟩
            case measure => simp [intOf]; omega
          · cases x3
            · have a1w := pw_cell_below ((Below.refl _ _).alloc (Nat.le_refl _) (.cells #[.int .i64 x1, .string x2, .bool false, .bool x4, .bool x5, .bool x6] 28)) a1
              go_upto_region 20 with (fail)
              go_region
              go_wp2
              go_roundw
              case rel => exact ⟨j + 1, last, by omega, by go_num, rfl, (by have h := HQ.out; simpa using h), HBW.out.drew, HBW5.out.drew⟩
              case measure => simp [intOf]; omega
            · have a1w := pw_cell_below ((Below.refl _ _).alloc (Nat.le_refl _) (.cells #[.int .i64 x1, .string x2, .bool true, .bool x4, .bool x5, .bool x6] 28)) a1
              go_upto_region 20 with (fail)
              go_region
              go_wp2
              go_roundw
              case rel => exact ⟨j + 1, x1, by omega, by go_num, rfl, (by have h := HQ.out; simpa using h), HBW.out.drew, HBW5.out.drew⟩
              case measure => simp [intOf]; omega
        · have d0 : decide ((j : Int) < (l0.length : Int)) = false := decide_eq_false (by omega)
          go_wp2
          go_ret
          exact ⟨rfl, HBX.out⟩

set_option maxHeartbeats 1000000 in
/-- THE LAW OF ONE BUCKET. -/
theorem once_walk (A : Option Addr) (c : Nat) (l0 : List S28) (w : World) (hn : l0.length ≤ 9223372036854775807) (hr : Kd.C k28 w A l0.length l0) (hc : l0.length ≤ c) (hglob : Glob w) :
    Calls Tryd.prog 4 #[.slice A l0.length c] w fun e w' => e = .returned (.bool true) ∧ Below w.heap.size w w' := by
  obtain ⟨k1, r1, h1⟩ := fits_some l0 hn
  obtain ⟨k2, r2, h2, h3⟩ := in_some l0 hn
  cases r1 with
  | false =>
    have H1 := Lib.hid h1
    have HR := Lib.hid hr
    have HC := Lib.hid hc
    clear h1 h2 h3 hr hc hglob hn
    go_enter Tryd.func4, Tryd.ntmps4
    go_wp2_with (go_at_call 5; (with_reducible refine (laws_zzFits1.calls k1 A c l0 false _ HR.out HC.out H1.out).mono ?_); rintro e w1 ⟨rfl, hb1⟩)
    go_ret
    exact ⟨rfl, hb1⟩
  | true =>
    cases r2 with
    | false =>
      have H1 := Lib.hid h1
      have H2 := Lib.hid h2
      have HR := Lib.hid hr
      have HC := Lib.hid hc
      clear h1 h2 h3 hr hc hglob hn
      go_enter Tryd.func4, Tryd.ntmps4
      go_wp2_with (first | (go_at_call 5; (with_reducible refine (laws_zzFits1.calls k1 A c l0 true _ HR.out HC.out H1.out).mono ?_); rintro e w1 ⟨rfl, hb1⟩; have HB1 := Lib.hid hb1; clear hb1) | (go_at_call 6; (with_reducible refine (laws_bucketIn.calls k2 A c l0 false _ (Kd.C_below HR.out HB1.out) HC.out H2.out).mono ?_); rintro e w2 ⟨rfl, hb2⟩; have HB2 := Lib.hid (HB1.out.trans (hb2.mono HB1.out.size)); clear hb2))
      go_ret
      exact ⟨rfl, HB2.out⟩
    | true =>
      obtain ⟨h4, h5⟩ := h3 rfl
      exact once_loop1 A c l0 w h4 h5 hr hc hglob k1 k2 h1 h2
end Go.Proofs.YtbennnoddflggaaDoor.Buck
