import Derived.Test.YtfegihmnpcjdgaaRang6
namespace Go.Proofs.Ytfegihmnpcjdgaa.Rang
open Go.RowKit Go.Proofs.YtfegihmnpcjdgaaW.PrintWords Go.Proofs.YtfegihmnpcjdgaaW.PrintMore
set_option linter.unusedVariables false
/-- A cut from a place on, to the row's end or short of it. -/
theorem sl_from2 (g n c j : Nat) (hj : j ≤ n) (W : World) :
    (Instr.slice 55 (.slice (some ⟨g, 0, none⟩) n c) (some (.int .i64 (j : Int))) none none).run Try.prog W = .ok (.slice (some ⟨g, if c = j then 0 else j * 2, none⟩) (n - j) (c - j)) W := by
  have hs := info61
  cases hq : Try.prog.info? 61 with
  | none => simp [hq] at hs
  | some i =>
    have hi : i.size = 2 := by simpa [hq] using hs
    have h := cut_from (P := Try.prog) 55 61 .i64 Try.underlying55 hq 2 hi (some ⟨g, 0, none⟩) n c (j : Int) (by omega) (by omega) W
    rw [h, Int.toNat_natCast]
    by_cases hc : c = j
    · rw [if_pos hc, if_pos hc]
    · rw [if_neg hc, if_neg hc]; simp only [Option.map_some, add_at, Nat.zero_add]

/-- The row behind the copy that makes room at a place. -/
theorem row_shifted {g cap : Nat} {xs : List (Int × Int)} {z : Int × Int} {w : World} {cur : Array Value} (hb : Blk g cur w) (hl : cur.toList.take ((xs ++ [z]).length * 2) = flat (xs ++ [z]))
    (hc : (xs ++ [z]).length ≤ cap) (hs : cur.size = cap * 2) (i off : Nat) (hi : i ≤ xs.length) (ho : i = xs.length ∨ off = (i + 1) * 2) :
    ∃ p, Row g cap (xs.take i ++ p :: xs.drop i) (w.setRow g (cur.toList.take off ++ flat (xs.drop i) ++ cur.toList.drop (off + (flat (xs.drop i)).length)).toArray) := by
  have hcl : cur.toList.length = cap * 2 := by simpa using hs
  rcases Nat.lt_or_eq_of_le hi with hlt | heq
  · have hoff : off = (i + 1) * 2 := by omega
    subst hoff
    refine ⟨xs[i]'hlt, ?_⟩
    have hA : cur.toList.take ((i + 1) * 2) = flat (xs.take i ++ [xs[i]'hlt]) := by
      have h1 : (cur.toList.take ((xs ++ [z]).length * 2)).take ((i + 1) * 2) = (flat (xs ++ [z])).take ((i + 1) * 2) := by rw [hl]
      rw [List.take_take, Nat.min_eq_left (by simp; omega), ← flat_take, List.take_append_of_le_length (by omega)] at h1
      rw [h1, List.take_succ_eq_append_getElem hlt]
    have hlen : (xs.take i ++ xs[i]'hlt :: xs.drop i).length = xs.length + 1 := by simp; omega
    refine ⟨_, setRow_heap _ _ _ _ _ _ hb, ?_, by rw [hlen]; simpa using hc, ?_⟩
    · rw [hA, hlen]
      have e : flat (xs.take i ++ [xs[i]'hlt]) ++ flat (xs.drop i) = flat (xs.take i ++ xs[i]'hlt :: xs.drop i) := by
        rw [← flat_append, List.append_assoc]; rfl
      rw [e, List.take_left']
      rw [flat_len, hlen]
    · have h2 := flat_len (xs.drop i)
      have h3 : (xs ++ [z]).length = xs.length + 1 := by simp
      simp [h2, hcl]
      omega
  · subst heq
    refine ⟨z, ?_⟩
    have e : flat (xs.drop xs.length) = [] := by simp [flat]
    rw [e, List.append_nil, List.length_nil, Nat.add_zero, List.take_append_drop]
    have e2 : xs.take xs.length ++ z :: xs.drop xs.length = xs ++ [z] := by simp
    rw [e2]
    exact ⟨_, setRow_heap _ _ _ _ _ _ hb, by simpa using hl, hc, by simpa using hs⟩
theorem src_of_row {g : Nat} {xs : List (Int × Int)} {z : Int × Int} {w : World} {cur : Array Value} (hb : Blk g cur w) (hl : cur.toList.take ((xs ++ [z]).length * 2) = flat (xs ++ [z])) (i : Nat) (hi : i ≤ xs.length) :
    ∀ k v, (flat (xs.drop i))[k]? = some v → w.cell? ((⟨g, i * 2, none⟩ : Addr).add k) = some v := by
  intro k v hk
  rw [flat_drop, List.getElem?_drop] at hk
  have hlt := (List.getElem?_eq_some_iff.1 hk).1
  have h2 : (flat (xs ++ [z]))[i * 2 + k]? = some v := by rw [flat_append, List.getElem?_append_left hlt]; exact hk
  rw [flat_len] at hlt
  rw [← hl, List.getElem?_take_of_lt (by simp; omega)] at h2
  rw [add_at]
  exact hb.cell _ _ (by simpa using h2)
theorem set_at_place (xs : List (Int × Int)) (i : Nat) (hi : i ≤ xs.length) (p r : Int × Int) : (xs.take i ++ p :: xs.drop i).set i r = xs.take i ++ r :: xs.drop i := by
  have h : (xs.take i).length = i := by simp; omega
  rw [List.set_append_right _ _ (by omega), h, Nat.sub_self]
  rfl

set_option maxHeartbeats 8000000 in
set_option maxRecDepth 100000 in
theorem insert_end (B : Nat) (w0 : World) (rb g cap : Nat) (xs : List (Int × Int)) (r1 r2 : Int) (w : World) (hr : ¬ r2 ≤ 0) (hn : xs.length ≤ 900000) (hst : St B w0 rb g cap xs.length xs w) (hx : xs ≠ [])
    (i : Nat) (hpl : place xs r1 = i) (hi : i = xs.length) :
    Calls Try.prog 54 #[.pointer (some ⟨rb, 0, none⟩), .agg #[.int .i64 r1, .int .i64 r2]] w fun e w' => e = .returned (.tuple #[]) ∧ Holds B w0 rb (coal (xs.take i ++ (r1, r2) :: xs.drop i) i) w' := by
  have hlen : 0 < xs.length := List.length_pos_iff.2 hx
  have b0 : decide (r2 ≤ 0) = false := decide_eq_false hr
  have b1 : ((xs.length : Int) == 0) = false := by simp; exact hx
  have b2 : ((i : Int) == (xs.length : Int)) = true := by simp; omega
  have hi1 : i ≤ xs.length := by omega
  have hi2 : xs.length ≤ i := by omega
  clear hi
  have hgl := hst.row.lt
  have hrl := hst.var.lt
  have hrg := hst.ne
  have HST := Lib.hid hst
  have HPL := Lib.hid hpl
  clear hst hpl hr hx
  go_enter Try.func54, Try.ntmps54
  go_wp2_with (first
    | (go_at_call 48; (with_reducible refine (empty_is _ _ _).mono ?_); rintro e w1 ⟨rfl, hb⟩; have hz1 := hb.size; have HS1 := Lib.hid ((HST.out.below ((Below.refl _ _).alloc (Nat.le_refl _) _)).below hb); have k0 := HS1.out.var.cell; have q0 : w1.cell? ⟨w.heap.size, 0, none⟩ = some (.int .i64 r1) := (by rw [hb.cell (by simp)]; simp [go_sem]); have q1 : w1.cell? ⟨w.heap.size, 1, none⟩ = some (.int .i64 r2) := (by rw [hb.cell (by simp)]; simp [go_sem]); have HBX : Hid (Blk w.heap.size #[.int .i64 r1, .int .i64 r2] w1) := Lib.hid ((hb.block w.heap.size (by simp)).trans (heap_alloc_new w _)); have HSR := Lib.hid (HS1.out.search (by omega) r1 r2); clear hb)
    | (go_at_call 55; (with_reducible refine (HSR.out).mono ?_); rintro e w2 ⟨rfl, hb2⟩; have hz2 := hb2.size; rw [HPL.out]; have HS2 := Lib.hid (HS1.out.below hb2); have HBX2 : Hid (Blk w.heap.size #[.int .i64 r1, .int .i64 r2] w2) := Lib.hid ((hb2.block w.heap.size HBX.out.lt).trans HBX.out);  clear hb2)
    | ((with_reducible refine gate_builtin (b := .append) (xs := #[.tmp 35, .tmp 37]) rfl ?_); at_builtin; (refine Kd.R_append kp (w0 := w0) B rfl (.tmp 35) (.tmp 37) 55 61 (.agg #[.int .i64 0, .int .i64 0]) 16 rfl Try.underlying55 info61a rfl (by decide) (by omega) (.slice (some ⟨g, 0, none⟩) xs.length cap) xs (0, 0) [.int .i64 0, .int .i64 0] (fun _ => True) (fun _ => False) rfl rfl (kp_mk _ _ _ (0, 0)) (fun _ hk => hk.elim) (fun _ _ => trivial) HS2.out.own HS2.out.low HS2.out.hB (by omega) ?_; intro v5 w5 ho hb5 hg hat; have HO := Lib.hid ho; have HB5 := Lib.hid hb5; have HG := Lib.hid hg; have HAT := Lib.hid hat; obtain ⟨g2, cap2, rfl, hgB, hrow, hcm⟩ := row_of_R ho (by simp); have HROW := Lib.hid hrow; clear ho hb5 hg hat hrow)))
  have hle2 : xs.length + 1 ≤ cap2 := by have := HROW.out.le; simpa using this
  have hz5 := HG.out.size
  have hg2 : g2 = g ∨ w2.heap.size ≤ g2 := by
    rcases HAT.out with h | ⟨b, h, hb⟩
    · left; simpa [Value.ownBlock] using h
    · right; have : g2 = b := by simpa [Value.ownBlock] using h
      omega
  simp at hz1
  have hr2 : rb ≠ g2 := by omega
  have hv2 : w.heap.size ≠ g2 := by omega
  have hB5 : B ≤ w5.heap.size := Nat.le_trans HS2.out.hB hz5
  have hvar5 : w5.heap[rb]? = some (.cells #[.slice (some ⟨g, 0, none⟩) xs.length cap] 55 (0, 0)) := (HG.out.block rb (by omega) (by simp [Value.ownBlock]; omega)).trans HS2.out.var
  have hbx5 : Blk w.heap.size #[.int .i64 r1, .int .i64 r2] w5 := (HG.out.block w.heap.size (by omega) (by simp [Value.ownBlock]; omega)).trans HBX2.out
  have HV5 := Lib.hid hvar5
  have HBX5 := Lib.hid hbx5
  clear hvar5 hbx5
  have hi0 : i ≤ xs.length := by omega
  have hw1 : IntKind.i64.wrap ((i : Int) + 1) = (i : Int) + 1 := by simp [IntKind.wrap, IntKind.signed, IntKind.bits]; omega
  have s1 : ∀ W, (Instr.slice 55 (.slice (some ⟨g2, 0, none⟩) (xs.length + 1) cap2) (some (.int .i64 ((i : Int) + 1))) none none).run Try.prog W = .ok (.slice (some ⟨g2, if cap2 = i + 1 then 0 else (i + 1) * 2, none⟩) (xs.length + 1 - (i + 1)) (cap2 - (i + 1))) W := fun W => by
    have h := sl_from2 g2 (xs.length + 1) cap2 (i + 1) (by omega) W
    rw [show ((i + 1 : Nat) : Int) = (i : Int) + 1 by omega] at h
    exact h
  have s2 : ∀ W, _ = _ := fun W => sl_from g2 (xs.length + 1) cap2 i (by omega) (by omega) W
  obtain ⟨off, hoff⟩ : ∃ off, off = (if cap2 = i + 1 then 0 else (i + 1) * 2) := ⟨_, rfl⟩
  rw [← hoff] at s1
  obtain ⟨dl, hdl⟩ : ∃ dl, dl = xs.length + 1 - (i + 1) := ⟨_, rfl⟩
  obtain ⟨dc, hdc⟩ : ∃ dc, dc = cap2 - (i + 1) := ⟨_, rfl⟩
  obtain ⟨sl, hsl⟩ : ∃ sl, sl = xs.length + 1 - i := ⟨_, rfl⟩
  obtain ⟨sc, hsc⟩ : ∃ sc, sc = cap2 - i := ⟨_, rfl⟩
  rw [← hdl, ← hdc] at s1
  rw [← hsl, ← hsc] at s2
  have hmin : Nat.min sl dl = xs.length - i := by show min _ _ = _; omega
  have HMIN := Lib.hid hmin
  clear hdl hdc hsl hsc hmin
  have ho1 : i = xs.length ∨ off = (i + 1) * 2 := by
    by_cases h : cap2 = i + 1
    · left; omega
    · right; rw [hoff, if_neg h]
  have ho2 : off ≤ cap2 * 2 := by rw [hoff]; split <;> omega
  have HOFF := Lib.hid hoff
  have HO1 := Lib.hid ho1
  clear hoff ho1
  go_still_tail 7, (by kernel_rfl)
  change wpList _ _ _ _ _ w5.drew
  obtain ⟨cur, hcb, hcl1, hcl2, hcl3⟩ := HROW.out
  have hcb' : Blk g2 cur w5.drew := hcb
  refine wpList_copy2 rfl (.tmp 42) (.tmp 45) rfl rfl g2 off dl dc ⟨g2, i * 2, none⟩ sl sc rfl rfl cur hcb' (flat (xs.drop i)) (by rw [flat_len, HMIN.out]; simp) (src_of_row hcb' hcl1 i hi0) (by rw [flat_len]; have := HO1.out; simp; omega) (flat_one _) ?_
  obtain ⟨p, hrow6⟩ := row_shifted hcb' hcl1 hcl2 hcl3 i off hi0 HO1.out
  have hon : Only g2 w5.drew (w5.drew.setRow g2 (cur.toList.take off ++ flat (xs.drop i) ++ cur.toList.drop (off + (flat (xs.drop i)).length)).toArray) :=
    ⟨rfl, rfl, rfl, by simp [World.setRow], fun k _ hne => setRow_other _ _ _ _ hne⟩
  have HR6 := Lib.hid hrow6
  have HON := Lib.hid hon
  clear hon hrow6 hcb' hcb hcl1 hcl2 hcl3
  generalize (w5.drew.setRow g2 (cur.toList.take off ++ flat (xs.drop i) ++ cur.toList.drop (off + (flat (xs.drop i)).length)).toArray) = w6 at HR6 HON ⊢
  have hbx6 : Blk w.heap.size #[.int .i64 r1, .int .i64 r2] w6 := (HON.out.block w.heap.size HBX5.out.lt hv2).trans HBX5.out
  have hv6 : w6.heap[rb]? = some (.cells #[.slice (some ⟨g, 0, none⟩) xs.length cap] 55 (0, 0)) := (HON.out.block rb (Array.getElem?_eq_some_iff.1 HV5.out).1 hr2).trans HV5.out
  have q0 := hbx6.cell 0 _ rfl
  have q1 := hbx6.cell 1 _ rfl
  have HB6 := Lib.hid (Below.only HB5.out.drew HON.out hgB hB5)
  have hB6 : B ≤ w6.heap.size := Nat.le_trans hB5 HON.out.size
  have HV6 := Lib.hid hv6
  have HBX6 := Lib.hid hbx6
  clear hv6 hbx6
  obtain ⟨cur6, hcb6, hcl61, hcl62, hcl63⟩ := HR6.out
  have hln6 : (xs.take i ++ p :: xs.drop i).length = xs.length + 1 := by simp; omega
  have hat6 := flat_at (xs.take i ++ p :: xs.drop i) i (by rw [hln6]; omega)
  rw [← hcl61, List.getElem?_take_of_lt (by rw [hln6]; omega), List.getElem?_take_of_lt (by rw [hln6]; omega)] at hat6
  have hc0 := hcb6.cell _ _ (by simpa using hat6.1)
  have hc1 := hcb6.cell _ _ (by simpa using hat6.2)
  have hf0 := hcb6.frozen (i * 2)
  have hf1 := hcb6.frozen (i * 2 + 1)
  have HCB6 := Lib.hid hcb6
  have HCL6 := Lib.hid hcl61
  have HLN6 := Lib.hid hln6
  have b5 : (i : Int) < ((xs.length + 1 : Nat) : Int) := by omega
  have b6 : (i : Int) < (xs.length : Int) + 1 := by omega
  generalize ((xs.take i ++ p :: xs.drop i)[i]'(by rw [HLN6.out]; omega)).1 = y1 at hc0
  generalize ((xs.take i ++ p :: xs.drop i)[i]'(by rw [HLN6.out]; omega)).2 = y2 at hc1
  clear hcb6 hcl61 hat6 hln6
  have kv := (show Var rb g xs.length cap w6 from HV6.out).cell
  have fv := (show Var rb g xs.length cap w6 from HV6.out).frozen 0
  have hstat : St B w0 rb g2 cap2 (xs.length + 1) (xs.take i ++ (r1, r2) :: xs.drop i) (((w6.setCell ⟨g2, i * 2, none⟩ (.int .i64 r1)).setCell ⟨g2, i * 2 + 1, none⟩ (.int .i64 r2)).setCell ⟨rb, 0, none⟩ (.slice (some ⟨g2, 0, none⟩) (xs.length + 1) cap2)) := by
    have h7 : Row g2 cap2 (xs.take i ++ (r1, r2) :: xs.drop i) ((w6.setCell ⟨g2, i * 2, none⟩ (.int .i64 r1)).setCell ⟨g2, i * 2 + 1, none⟩ (.int .i64 r2)) := by
      have hb8 := blk_put (blk_put HCB6.out (i * 2) (.int .i64 r1) rfl) (i * 2 + 1) (.int .i64 r2) rfl
      rw [← set_at_place xs i hi0 p (r1, r2)]
      refine Row.set HCL6.out hcl62 hcl63 i (by rw [HLN6.out]; omega) (r1, r2) ?_
      rw [show (cur6.setIfInBounds (i * 2 + 1) (Value.int .i64 (r1, r2).2)).setIfInBounds (i * 2) (Value.int .i64 (r1, r2).1) = (cur6.setIfInBounds (i * 2) (Value.int .i64 r1)).setIfInBounds (i * 2 + 1) (Value.int .i64 r2) from Array.setIfInBounds_comm _ _ (by omega)]
      exact hb8
    have hvs : ((w6.setCell ⟨g2, i * 2, none⟩ (.int .i64 r1)).setCell ⟨g2, i * 2 + 1, none⟩ (.int .i64 r2)).heap[rb]? = some (.cells #[.slice (some ⟨g, 0, none⟩) xs.length cap] 55 (0, 0)) :=
      (Below.heap_setCell _ _ _ rb hr2).trans ((Below.heap_setCell _ _ _ rb hr2).trans HV6.out)
    exact ⟨h7.of_heap (Below.heap_setCell _ _ _ g2 (fun e => hr2 e.symm)), blk_put hvs 0 _ rfl, ((HB6.out.setCell (p := ⟨g2, i * 2, none⟩) hgB _).setCell (p := ⟨g2, i * 2 + 1, none⟩) hgB _).setCell (p := ⟨rb, 0, none⟩) HST.out.hrb _, hgB, HST.out.hrb, by simpa using hB6, hcm⟩
  have HSTA := Lib.hid hstat
  have hln7 : (xs.take i ++ (r1, r2) :: xs.drop i).length = xs.length + 1 := by simp; omega
  have HCO := Lib.hid (coalesce_any B w0 rb g2 cap2 (xs.take i ++ (r1, r2) :: xs.drop i) i _ (by rw [hln7]; omega) (by rw [hln7]; omega) (by rw [hln7]; exact hstat))
  have hni := coal_ne (xs.take i ++ (r1, r2) :: xs.drop i) i (by rw [hln7]; omega)
  have HNI := Lib.hid hni
  clear hstat hln7 hni
  go_wp2_with (go_at_call 58; (with_reducible refine (HCO.out).mono ?_); rintro e w4 ⟨rfl, hs4⟩)
  go_end0
  exact ⟨rfl, .some _ g2 cap2 _ hs4 HNI.out⟩

set_option maxHeartbeats 8000000 in
set_option maxRecDepth 100000 in
theorem insert_at (B : Nat) (w0 : World) (rb g cap : Nat) (xs : List (Int × Int)) (r1 r2 : Int) (w : World) (hr : ¬ r2 ≤ 0) (hn : xs.length ≤ 900000) (hst : St B w0 rb g cap xs.length xs w) (hx : xs ≠ [])
    (i : Nat) (hpl : place xs r1 = i) (hi : i < xs.length) (hc : can (r1, r2) (el xs i) = false) :
    Calls Try.prog 54 #[.pointer (some ⟨rb, 0, none⟩), .agg #[.int .i64 r1, .int .i64 r2]] w fun e w' => e = .returned (.tuple #[]) ∧ Holds B w0 rb (coal (xs.take i ++ (r1, r2) :: xs.drop i) i) w' := by
  have hlen : 0 < xs.length := List.length_pos_iff.2 hx
  have b0 : decide (r2 ≤ 0) = false := decide_eq_false hr
  have b1 : ((xs.length : Int) == 0) = false := by simp; exact hx
  have b2 : ((i : Int) == (xs.length : Int)) = false := by simp; omega
  have b3 : (i : Int) < (xs.length : Int) := by omega
  have hgl := hst.row.lt
  have hrl := hst.var.lt
  have hrg := hst.ne
  have HST := Lib.hid hst
  have HPL := Lib.hid hpl
  clear hst hpl hr hx
  go_enter Try.func54, Try.ntmps54
  go_wp2_with (first
    | (go_at_call 48; (with_reducible refine (empty_is _ _ _).mono ?_); rintro e w1 ⟨rfl, hb⟩; have hz1 := hb.size; have HS1 := Lib.hid ((HST.out.below ((Below.refl _ _).alloc (Nat.le_refl _) _)).below hb); have k0 := HS1.out.var.cell; have q0 : w1.cell? ⟨w.heap.size, 0, none⟩ = some (.int .i64 r1) := (by rw [hb.cell (by simp)]; simp [go_sem]); have q1 : w1.cell? ⟨w.heap.size, 1, none⟩ = some (.int .i64 r2) := (by rw [hb.cell (by simp)]; simp [go_sem]); have HBX : Hid (Blk w.heap.size #[.int .i64 r1, .int .i64 r2] w1) := Lib.hid ((hb.block w.heap.size (by simp)).trans (heap_alloc_new w _)); have HSR := Lib.hid (HS1.out.search (by omega) r1 r2); clear hb)
    | (go_at_call 55; (with_reducible refine (HSR.out).mono ?_); rintro e w2 ⟨rfl, hb2⟩; have hz2 := hb2.size; rw [HPL.out]; have HS2 := Lib.hid (HS1.out.below hb2); have HBX2 : Hid (Blk w.heap.size #[.int .i64 r1, .int .i64 r2] w2) := Lib.hid ((hb2.block w.heap.size HBX.out.lt).trans HBX.out); have HMG := Lib.hid (merge_new w.heap.size g cap (r1, r2) xs i hi w2 HBX2.out HS2.out.row (by omega)); clear hb2)
    | (go_at_call 57; (with_reducible refine (HMG.out).mono ?_); rintro e w3 ⟨rfl, ho, hrow⟩; rw [hc]; rw [if_neg (by rw [hc]; decide)] at hrow; have hz3 := ho.size; have HS3 := Lib.hid (HS2.out.only ho hrow); have HBX3 : Hid (Blk w.heap.size #[.int .i64 r1, .int .i64 r2] w3) := Lib.hid ((ho.block w.heap.size HBX2.out.lt (by omega)).trans HBX2.out); clear ho hrow)
    | ((with_reducible refine gate_builtin (b := .append) (xs := #[.tmp 35, .tmp 37]) rfl ?_); at_builtin; (refine Kd.R_append kp (w0 := w0) B rfl (.tmp 35) (.tmp 37) 55 61 (.agg #[.int .i64 0, .int .i64 0]) 16 rfl Try.underlying55 info61a rfl (by decide) (by omega) (.slice (some ⟨g, 0, none⟩) xs.length cap) xs (0, 0) [.int .i64 0, .int .i64 0] (fun _ => True) (fun _ => False) rfl rfl (kp_mk _ _ _ (0, 0)) (fun _ hk => hk.elim) (fun _ _ => trivial) HS3.out.own HS3.out.low HS3.out.hB (by omega) ?_; intro v5 w5 ho hb5 hg hat; have HO := Lib.hid ho; have HB5 := Lib.hid hb5; have HG := Lib.hid hg; have HAT := Lib.hid hat; obtain ⟨g2, cap2, rfl, hgB, hrow, hcm⟩ := row_of_R ho (by simp); have HROW := Lib.hid hrow; clear ho hb5 hg hat hrow)))
  have hle2 : xs.length + 1 ≤ cap2 := by have := HROW.out.le; simpa using this
  have hz5 := HG.out.size
  have hg2 : g2 = g ∨ w3.heap.size ≤ g2 := by
    rcases HAT.out with h | ⟨b, h, hb⟩
    · left; simpa [Value.ownBlock] using h
    · right; have : g2 = b := by simpa [Value.ownBlock] using h
      omega
  simp at hz1
  have hr2 : rb ≠ g2 := by omega
  have hv2 : w.heap.size ≠ g2 := by omega
  have hB5 : B ≤ w5.heap.size := Nat.le_trans HS3.out.hB hz5
  have hvar5 : w5.heap[rb]? = some (.cells #[.slice (some ⟨g, 0, none⟩) xs.length cap] 55 (0, 0)) := (HG.out.block rb (by omega) (by simp [Value.ownBlock]; omega)).trans HS3.out.var
  have hbx5 : Blk w.heap.size #[.int .i64 r1, .int .i64 r2] w5 := (HG.out.block w.heap.size (by omega) (by simp [Value.ownBlock]; omega)).trans HBX3.out
  have HV5 := Lib.hid hvar5
  have HBX5 := Lib.hid hbx5
  clear hvar5 hbx5
  have hi0 : i ≤ xs.length := by omega
  have hw1 : IntKind.i64.wrap ((i : Int) + 1) = (i : Int) + 1 := by simp [IntKind.wrap, IntKind.signed, IntKind.bits]; omega
  have s1 : ∀ W, (Instr.slice 55 (.slice (some ⟨g2, 0, none⟩) (xs.length + 1) cap2) (some (.int .i64 ((i : Int) + 1))) none none).run Try.prog W = .ok (.slice (some ⟨g2, if cap2 = i + 1 then 0 else (i + 1) * 2, none⟩) (xs.length + 1 - (i + 1)) (cap2 - (i + 1))) W := fun W => by
    have h := sl_from2 g2 (xs.length + 1) cap2 (i + 1) (by omega) W
    rw [show ((i + 1 : Nat) : Int) = (i : Int) + 1 by omega] at h
    exact h
  have s2 : ∀ W, _ = _ := fun W => sl_from g2 (xs.length + 1) cap2 i (by omega) (by omega) W
  obtain ⟨off, hoff⟩ : ∃ off, off = (if cap2 = i + 1 then 0 else (i + 1) * 2) := ⟨_, rfl⟩
  rw [← hoff] at s1
  obtain ⟨dl, hdl⟩ : ∃ dl, dl = xs.length + 1 - (i + 1) := ⟨_, rfl⟩
  obtain ⟨dc, hdc⟩ : ∃ dc, dc = cap2 - (i + 1) := ⟨_, rfl⟩
  obtain ⟨sl, hsl⟩ : ∃ sl, sl = xs.length + 1 - i := ⟨_, rfl⟩
  obtain ⟨sc, hsc⟩ : ∃ sc, sc = cap2 - i := ⟨_, rfl⟩
  rw [← hdl, ← hdc] at s1
  rw [← hsl, ← hsc] at s2
  have hmin : Nat.min sl dl = xs.length - i := by show min _ _ = _; omega
  have HMIN := Lib.hid hmin
  clear hdl hdc hsl hsc hmin
  have ho1 : i = xs.length ∨ off = (i + 1) * 2 := by
    by_cases h : cap2 = i + 1
    · left; omega
    · right; rw [hoff, if_neg h]
  have ho2 : off ≤ cap2 * 2 := by rw [hoff]; split <;> omega
  have HOFF := Lib.hid hoff
  have HO1 := Lib.hid ho1
  clear hoff ho1
  go_still_tail 7, (by kernel_rfl)
  change wpList _ _ _ _ _ w5.drew
  obtain ⟨cur, hcb, hcl1, hcl2, hcl3⟩ := HROW.out
  have hcb' : Blk g2 cur w5.drew := hcb
  refine wpList_copy2 rfl (.tmp 42) (.tmp 45) rfl rfl g2 off dl dc ⟨g2, i * 2, none⟩ sl sc rfl rfl cur hcb' (flat (xs.drop i)) (by rw [flat_len, HMIN.out]; simp) (src_of_row hcb' hcl1 i hi0) (by rw [flat_len]; have := HO1.out; simp; omega) (flat_one _) ?_
  obtain ⟨p, hrow6⟩ := row_shifted hcb' hcl1 hcl2 hcl3 i off hi0 HO1.out
  have hon : Only g2 w5.drew (w5.drew.setRow g2 (cur.toList.take off ++ flat (xs.drop i) ++ cur.toList.drop (off + (flat (xs.drop i)).length)).toArray) :=
    ⟨rfl, rfl, rfl, by simp [World.setRow], fun k _ hne => setRow_other _ _ _ _ hne⟩
  have HR6 := Lib.hid hrow6
  have HON := Lib.hid hon
  clear hon hrow6 hcb' hcb hcl1 hcl2 hcl3
  generalize (w5.drew.setRow g2 (cur.toList.take off ++ flat (xs.drop i) ++ cur.toList.drop (off + (flat (xs.drop i)).length)).toArray) = w6 at HR6 HON ⊢
  have hbx6 : Blk w.heap.size #[.int .i64 r1, .int .i64 r2] w6 := (HON.out.block w.heap.size HBX5.out.lt hv2).trans HBX5.out
  have hv6 : w6.heap[rb]? = some (.cells #[.slice (some ⟨g, 0, none⟩) xs.length cap] 55 (0, 0)) := (HON.out.block rb (Array.getElem?_eq_some_iff.1 HV5.out).1 hr2).trans HV5.out
  have q0 := hbx6.cell 0 _ rfl
  have q1 := hbx6.cell 1 _ rfl
  have HB6 := Lib.hid (Below.only HB5.out.drew HON.out hgB hB5)
  have hB6 : B ≤ w6.heap.size := Nat.le_trans hB5 HON.out.size
  have HV6 := Lib.hid hv6
  have HBX6 := Lib.hid hbx6
  clear hv6 hbx6
  obtain ⟨cur6, hcb6, hcl61, hcl62, hcl63⟩ := HR6.out
  have hln6 : (xs.take i ++ p :: xs.drop i).length = xs.length + 1 := by simp; omega
  have hat6 := flat_at (xs.take i ++ p :: xs.drop i) i (by rw [hln6]; omega)
  rw [← hcl61, List.getElem?_take_of_lt (by rw [hln6]; omega), List.getElem?_take_of_lt (by rw [hln6]; omega)] at hat6
  have hc0 := hcb6.cell _ _ (by simpa using hat6.1)
  have hc1 := hcb6.cell _ _ (by simpa using hat6.2)
  have hf0 := hcb6.frozen (i * 2)
  have hf1 := hcb6.frozen (i * 2 + 1)
  have HCB6 := Lib.hid hcb6
  have HCL6 := Lib.hid hcl61
  have HLN6 := Lib.hid hln6
  have b5 : (i : Int) < ((xs.length + 1 : Nat) : Int) := by omega
  have b6 : (i : Int) < (xs.length : Int) + 1 := by omega
  generalize ((xs.take i ++ p :: xs.drop i)[i]'(by rw [HLN6.out]; omega)).1 = y1 at hc0
  generalize ((xs.take i ++ p :: xs.drop i)[i]'(by rw [HLN6.out]; omega)).2 = y2 at hc1
  clear hcb6 hcl61 hat6 hln6
  have kv := (show Var rb g xs.length cap w6 from HV6.out).cell
  have fv := (show Var rb g xs.length cap w6 from HV6.out).frozen 0
  have hstat : St B w0 rb g2 cap2 (xs.length + 1) (xs.take i ++ (r1, r2) :: xs.drop i) (((w6.setCell ⟨g2, i * 2, none⟩ (.int .i64 r1)).setCell ⟨g2, i * 2 + 1, none⟩ (.int .i64 r2)).setCell ⟨rb, 0, none⟩ (.slice (some ⟨g2, 0, none⟩) (xs.length + 1) cap2)) := by
    have h7 : Row g2 cap2 (xs.take i ++ (r1, r2) :: xs.drop i) ((w6.setCell ⟨g2, i * 2, none⟩ (.int .i64 r1)).setCell ⟨g2, i * 2 + 1, none⟩ (.int .i64 r2)) := by
      have hb8 := blk_put (blk_put HCB6.out (i * 2) (.int .i64 r1) rfl) (i * 2 + 1) (.int .i64 r2) rfl
      rw [← set_at_place xs i hi0 p (r1, r2)]
      refine Row.set HCL6.out hcl62 hcl63 i (by rw [HLN6.out]; omega) (r1, r2) ?_
      rw [show (cur6.setIfInBounds (i * 2 + 1) (Value.int .i64 (r1, r2).2)).setIfInBounds (i * 2) (Value.int .i64 (r1, r2).1) = (cur6.setIfInBounds (i * 2) (Value.int .i64 r1)).setIfInBounds (i * 2 + 1) (Value.int .i64 r2) from Array.setIfInBounds_comm _ _ (by omega)]
      exact hb8
    have hvs : ((w6.setCell ⟨g2, i * 2, none⟩ (.int .i64 r1)).setCell ⟨g2, i * 2 + 1, none⟩ (.int .i64 r2)).heap[rb]? = some (.cells #[.slice (some ⟨g, 0, none⟩) xs.length cap] 55 (0, 0)) :=
      (Below.heap_setCell _ _ _ rb hr2).trans ((Below.heap_setCell _ _ _ rb hr2).trans HV6.out)
    exact ⟨h7.of_heap (Below.heap_setCell _ _ _ g2 (fun e => hr2 e.symm)), blk_put hvs 0 _ rfl, ((HB6.out.setCell (p := ⟨g2, i * 2, none⟩) hgB _).setCell (p := ⟨g2, i * 2 + 1, none⟩) hgB _).setCell (p := ⟨rb, 0, none⟩) HST.out.hrb _, hgB, HST.out.hrb, by simpa using hB6, hcm⟩
  have HSTA := Lib.hid hstat
  have hln7 : (xs.take i ++ (r1, r2) :: xs.drop i).length = xs.length + 1 := by simp; omega
  have HCO := Lib.hid (coalesce_any B w0 rb g2 cap2 (xs.take i ++ (r1, r2) :: xs.drop i) i _ (by rw [hln7]; omega) (by rw [hln7]; omega) (by rw [hln7]; exact hstat))
  have hni := coal_ne (xs.take i ++ (r1, r2) :: xs.drop i) i (by rw [hln7]; omega)
  have HNI := Lib.hid hni
  clear hstat hln7 hni
  go_wp2_with (go_at_call 58; (with_reducible refine (HCO.out).mono ?_); rintro e w4 ⟨rfl, hs4⟩)
  go_end0
  exact ⟨rfl, .some _ g2 cap2 _ hs4 HNI.out⟩
end Go.Proofs.Ytfegihmnpcjdgaa.Rang
