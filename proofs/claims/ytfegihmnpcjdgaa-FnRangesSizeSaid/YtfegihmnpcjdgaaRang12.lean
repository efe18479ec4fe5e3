import Derived.Test.YtfegihmnpcjdgaaRang11
namespace Go.Proofs.Ytfegihmnpcjdgaa.Rang
open Go.RowKit Go.Proofs.YtfegihmnpcjdgaaW.PrintWords Go.Proofs.YtfegihmnpcjdgaaW.PrintMore Go.Proofs.YtfegihmnpcjdgaaW.PrintLast
set_option linter.unusedVariables false
set_option linter.unusedSimpArgs false

theorem Holds.rebase {B : Nat} {w0 : World} {rb : Nat} {xs : List (Int × Int)} {w : World} (h : Holds B w0 rb xs w) : Holds B w rb xs w := by
  cases h with
  | none _ h h1 h2 h3 => exact .none w h (Below.refl _ _) h2 h3
  | some _ g cap _ h hx => exact .some w g cap xs ⟨h.row, h.var, Below.refl _ _, h.hg, h.hrb, h.hB, h.hcap⟩ hx
/-- A cell of another block, below the row's and the variable's, is written. -/
theorem Holds.setBelow {B : Nat} {rb : Nat} {xs : List (Int × Int)} {w : World} (h : Holds B w rb xs w) (n o : Nat) (v : Value) (hn : n < B) : Holds B (w.setCell ⟨n, o, Option.none⟩ v) rb xs (w.setCell ⟨n, o, Option.none⟩ v) := by
  cases h with
  | none _ h h1 h2 h3 => exact .none _ ((Below.heap_setCell _ _ _ rb (by simp; omega)).trans h) (Below.refl _ _) h2 (by simpa using h3)
  | some _ g cap _ h hx =>
    refine .some _ g cap xs ⟨h.row.of_heap (Below.heap_setCell _ _ _ g (by have := h.hg; simp; omega)), ?_, Below.refl _ _, h.hg, h.hrb, by simpa using h.hB, h.hcap⟩ hx
    exact (Below.heap_setCell _ _ _ rb (by have := h.hrb; simp; omega)).trans h.var
/-- What the variable holds: nil just if there is nothing. -/
theorem Holds.value2 {B : Nat} {w0 : World} {rb : Nat} {xs : List (Int × Int)} {w : World} (h : Holds B w0 rb xs w) : ∃ v, w.heap[rb]? = Option.some (.cells #[v] 55 (0, 0)) ∧ kp.R 61 w B (fun _ => True) v xs ∧ (xs = [] → v = .slice Option.none 0 0) := by
  cases h with
  | none _ h _ _ _ => exact ⟨_, h, Kd.R_nil _ _ _ _ _, fun _ => rfl⟩
  | some _ g cap _ h hx => exact ⟨_, St.var h, St.own h, fun e => absurd e hx⟩

theorem blkT_far {b g t : Nat} {cur : Array Value} {w : World} {o : Nat} {v : Value} (h : w.heap[b]? = some (.cells cur t (0, 0))) (hne : b ≠ g) : (w.setCell ⟨g, o, none⟩ v).heap[b]? = some (.cells cur t (0, 0)) := (Below.heap_setCell _ _ _ b hne).trans h
theorem blkT_two {b t : Nat} {x y x' y' : Value} {w : World} (h : w.heap[b]? = some (.cells #[x, y] t (0, 0))) : ((w.setCell ⟨b, 0, none⟩ x').setCell ⟨b, 1, none⟩ y').heap[b]? = some (.cells #[x', y'] t (0, 0)) := blk_put (blk_put h 0 x' rfl) 1 y' rfl
/-- The parts that are present, put into a set one by one. -/
def cutF (xs : List (Int × Int)) : Nat → Int × Int → List (Int × Int) → Option (List (Int × Int))
  | 0, _, _ => none
  | k + 1, r, acc => if r.2 ≤ 0 then some acc else if 800000 < acc.length then none else cutF xs k (find xs r).2.1 (if (find xs r).2.2 then ins acc (find xs r).1 else acc)

set_option maxHeartbeats 16000000 in
set_option maxRecDepth 100000 in
theorem inter_set (k : Nat) (A : Option Addr) (c : Nat) (xs : List (Int × Int)) (r1 r2 : Int) (res : List (Int × Int)) (w : World) (hn : xs.length ≤ 1000000) (hr : kp.C w A xs.length xs) (hx : xs ≠ []) (h : cutF xs k (r1, r2) [] = some res) :
    Calls Try.prog 46 #[.slice A xs.length c, .agg #[.int .i64 r1, .int .i64 r2]] w fun e w' => ∃ v, e = .returned v ∧ kp.R 61 w' w.heap.size (fun _ => True) v res ∧ Below w.heap.size w w' ∧ (res = [] → v = .slice none 0 0) := by
  have b1 : ((xs.length : Int) == 0) = false := by simp; exact hx
  have HR := Lib.hid hr
  have HX := Lib.hid hx
  have H := Lib.hid h
  have h4 : ((w.alloc (.cells #[.int .i64 r1, .int .i64 r2] 61)).alloc (.cells #[.slice none 0 0] 55)).heap[w.heap.size + 1]? = some (.cells #[.slice none 0 0] 55 (0, 0)) := by
    have h := heap_alloc_new (w.alloc (.cells #[.int .i64 r1, .int .i64 r2] 61)) (.cells #[.slice none 0 0] 55)
    rw [alloc_size] at h; exact h
  have h3 : ((w.alloc (.cells #[.int .i64 r1, .int .i64 r2] 61)).alloc (.cells #[.slice none 0 0] 55)).heap[w.heap.size]? = some (.cells #[.int .i64 r1, .int .i64 r2] 61 (0, 0)) := blk_alloc (heap_alloc_new _ _) _
  have hb : Below w.heap.size w ((w.alloc (.cells #[.int .i64 r1, .int .i64 r2] 61)).alloc (.cells #[.slice none 0 0] 55)) := ((Below.refl _ _).alloc (Nat.le_refl _) _).alloc (by simp) _
  have HH4 := Lib.hid h4
  have HH3 := Lib.hid h3
  have HB := Lib.hid hb
  clear hr hx h h4 h3 hb
  go_enter Try.func46, Try.ntmps46
  go_wp2
  go_loopg [] k (fun kq wr => ∃ (r : Int × Int) (acc : List (Int × Int)), cutF xs kq r acc = some res ∧ Holds (w.heap.size + 1) wr (w.heap.size + 1) acc wr ∧ wr.heap[w.heap.size]? = some (.cells #[.int .i64 r.1, .int .i64 r.2] 61 (0, 0)) ∧ Below w.heap.size w wr)
  case atStart => exact ⟨(r1, r2), [], H.out, .none _ HH4.out (Below.refl _ _) (Nat.le_refl _) (by simp), HH3.out, HB.out⟩
  case round =>
    clear HH4 HH3 HB H
    obtain ⟨⟨q1, q2⟩, acc, hcut, hh, hc3, hbw⟩ := hrel
    obtain ⟨m, rfl⟩ : ∃ m, gk = m + 1 := by
      cases gk with
      | zero => simp [cutF] at hcut
      | succ m => exact ⟨m, rfl⟩
    unfold cutF at hcut
    have HH := Lib.hid hh
    have HBW := Lib.hid hbw
    have H3 := Lib.hid hc3
    obtain ⟨k30, k31, f30, f31⟩ := pair_cells hc3
    have l3 : w.heap.size < wr.heap.size := (Array.getElem?_eq_some_iff.1 hc3).1
    have hrlt := hh.rlt
    clear hh hbw hc3
    by_cases h0 : q2 ≤ 0
    · rw [if_pos h0] at hcut
      obtain rfl := Option.some.inj hcut
      have d0 : decide (q2 ≤ 0) = true := decide_eq_true h0
      clear hcut h0
      go_wp2_with (go_at_call 48; (with_reducible refine (empty_is _ _ _).mono ?_); rintro e w1 ⟨rfl, hb1⟩; obtain ⟨v, hv, hRv, hnv⟩ := (HH.out.below hb1).value2; obtain ⟨Av, cv, ev⟩ := Kd.R_slice hRv; subst ev; have kv : w1.cell? ⟨w.heap.size + 1, 0, none⟩ = some (.slice Av acc.length cv) := (by simp [World.cell?, hv]); have fv : w1.frozen? ⟨w.heap.size + 1, 0, none⟩ = false := (by simp [World.frozen?, hv]); have HV := Lib.hid hv; have HRV := Lib.hid hRv; have HNV := Lib.hid hnv; have HB1 := Lib.hid (HBW.out.trans (hb1.mono HBW.out.size)); clear hv hRv hnv hb1)
      have hgo := Kd.R_set (Kd.R_lower HRV.out (Nat.le_succ _)) HV.out (by decide) 0 (.slice Av acc.length cv)
      refine bodyPost_ret (v := .slice Av acc.length cv) (by simp [results, Try.results46, go_sem, kv]) rfl ?_
      exact ⟨_, rfl, Kd.R_mono hgo (fun _ _ => trivial), HB1.out.setCell (p := ⟨w.heap.size + 1, 0, none⟩) (by simp) _, HNV.out⟩
    · rw [if_neg h0] at hcut
      have h8 : ¬ 800000 < acc.length := by
        intro h; rw [if_pos h] at hcut; cases hcut
      rw [if_neg h8] at hcut
      have HC := Lib.hid hcut
      have d0 : decide (q2 ≤ 0) = false := decide_eq_false h0
      have HFI := Lib.hid (fun (w1 : World) (hb1 : Below w.heap.size w w1) => find_all A c xs (q1, q2) w1 hn (Kd.C_below HR.out hb1))
      generalize hf : find xs (q1, q2) = f at HC HFI
      obtain ⟨⟨c1, c2⟩, ⟨n1, n2⟩, p⟩ := f
      clear hf hcut h0
      go_upto_region 7 with (first
        | (go_at_call 48; (with_reducible refine (empty_is _ _ _).mono ?_); rintro e w1 ⟨rfl, hb1⟩; have HH1 := Lib.hid (HH.out.below hb1); have HB1 := Lib.hid (HBW.out.trans (hb1.mono HBW.out.size)); have H31 := Lib.hid (pair_down H3.out hb1); have hz1 := hb1.size; clear k30 k31 f30 f31 hb1; obtain ⟨k30, k31, f30, f31⟩ := pair_cells H31.out; have l31 : w.heap.size < w1.heap.size := (by omega))
        | (go_at_call 44; (with_reducible refine (HFI.out _ (HB1.out.alloc HB1.out.size _)).mono ?_); rintro e w2 ⟨he, hb2⟩; have he2 : e = .returned (.tuple #[.agg #[.int .i64 c1, .int .i64 c2], .agg #[.int .i64 n1, .int .i64 n2], .bool p]) := he; subst he2; clear he; have hz2 := hb2.size; simp at hz2; have HB12 := Lib.hid (((Below.refl w1.heap.size w1).alloc (Nat.le_refl _) (.cells #[.int .i64 0, .int .i64 0] 61)).trans (hb2.mono (by simp))); have HB2 := Lib.hid ((HB1.out.alloc HB1.out.size _).trans (hb2.mono (by simp; omega))); have H32 := Lib.hid (pair_down (blk_alloc H31.out (.cells #[.int .i64 0, .int .i64 0] 61)) hb2); have H52 := Lib.hid (pair_down (heap_alloc_new w1 (.cells #[.int .i64 0, .int .i64 0] 61)) hb2); clear k30 k31 f30 f31 hb2; obtain ⟨k30, k31, f30, f31⟩ := pair_cells H32.out; obtain ⟨k50, k51, f50, f51⟩ := pair_cells H52.out))
      have hrlt1 := HH1.out.rlt
      have hB1 := HH1.out.hB
      have hh4 : Holds (w.heap.size + 1) _ (w.heap.size + 1) acc _ := ((HH1.out.below ((HB12.out.setCell (p := ⟨w1.heap.size, 0, none⟩) (Nat.le_refl _) (.int .i64 c1)).setCell (p := ⟨w1.heap.size, 1, none⟩) (Nat.le_refl _) (.int .i64 c2))).rebase.setBelow w.heap.size 0 (.int .i64 n1) (by omega)).setBelow w.heap.size 1 (.int .i64 n2) (by omega)
      have h34 := blkT_two (x' := .int .i64 n1) (y' := .int .i64 n2) (blkT_far (o := 1) (v := .int .i64 c2) (blkT_far (o := 0) (v := .int .i64 c1) H32.out (show w.heap.size ≠ w1.heap.size by omega)) (show w.heap.size ≠ w1.heap.size by omega))
      have h54 := blkT_far (o := 1) (v := .int .i64 n2) (blkT_far (o := 0) (v := .int .i64 n1) (blkT_two (x' := .int .i64 c1) (y' := .int .i64 c2) H52.out) (show w1.heap.size ≠ w.heap.size by omega)) (show w1.heap.size ≠ w.heap.size by omega)
      have hb4 := (((HB2.out.setCell (p := ⟨w1.heap.size, 0, none⟩) (by simp; omega) (.int .i64 c1)).setCell (p := ⟨w1.heap.size, 1, none⟩) (by simp; omega) (.int .i64 c2)).setCell (p := ⟨w.heap.size, 0, none⟩) (by simp) (.int .i64 n1)).setCell (p := ⟨w.heap.size, 1, none⟩) (by simp) (.int .i64 n2)
      have HH4 := Lib.hid hh4
      have H34 := Lib.hid h34
      have H54 := Lib.hid h54
      have HB4 := Lib.hid hb4
      clear hh4 h34 h54 hb4 k30 k31 f30 f31 k50 k51 f50 f51 HB12 H32 H52 HB2
      generalize (((w2.setCell ⟨w1.heap.size, 0, none⟩ (.int .i64 c1)).setCell ⟨w1.heap.size, 1, none⟩ (.int .i64 c2)).setCell ⟨w.heap.size, 0, none⟩ (.int .i64 n1)).setCell ⟨w.heap.size, 1, none⟩ (.int .i64 n2) = w4 at HH4 H34 H54 HB4 ⊢
      cases p with
      | false =>
        go_wp2
        go_roundg m
        case rel => exact ⟨(n1, n2), acc, by simpa using HC.out, HH4.out, H34.out, HB4.out⟩
        case measure => omega
      | true =>
        obtain ⟨k50, k51, f50, f51⟩ := pair_cells H54.out
        have HIN := Lib.hid (insert_any (w.heap.size + 1) w4 (w.heap.size + 1) acc c1 c2 w4 (by omega) HH4.out)
        go_wp2_with (go_at_call 54; (with_reducible refine (HIN.out).mono ?_); rintro e w5 ⟨rfl, hh5⟩)
        have hlo := hh5.low
        have hl34 := (Array.getElem?_eq_some_iff.1 H34.out).1
        go_roundg m
        case rel => exact ⟨(n1, n2), ins acc (c1, c2), by simpa using HC.out, hh5.rebase, (hlo.block w.heap.size (Nat.lt_succ_self _)).trans H34.out, HB4.out.trans (hlo.mono (Nat.le_succ _))⟩
        case measure => omega
set_option maxHeartbeats 8000000 in
set_option maxRecDepth 100000 in
/-- INSERTED: one range behind the other into nothing. -/
theorem inserted_nil (A : Option Addr) (c : Nat) (l : List (Int × Int)) (w : World) (hn : l.length ≤ 800000) (hl : ∀ k, k ≤ l.length → ((l.take k).foldl ins []).length ≤ k) (hr : kp.C w A l.length l) (hc : l.length ≤ c) :
    Calls Try.prog 38 #[.slice A l.length c] w fun e w' => ∃ v, e = .returned v ∧ kp.R 61 w' w.heap.size (fun _ => True) v (l.foldl ins []) ∧ Below w.heap.size w w' ∧ (l.foldl ins [] = [] → v = .slice none 0 0) := by
  have HR := Lib.hid hr
  have HL := Lib.hid hl
  clear hr hl
  go_enter Try.func38, Try.ntmps38
  go_wp2
  have hz : w.heap.size < (w.alloc (.cells #[.slice none 0 0] 55)).heap.size := by simp
  go_loopw [8] (fun v8 wr => ∃ k : Nat, k ≤ l.length ∧ v8 = .int .i64 k ∧ Holds w.heap.size w w.heap.size ((l.take k).foldl ins []) wr) (fun v8 _ => l.length - (intOf v8).toNat)
  case atStart => exact ⟨0, Nat.zero_le _, rfl, .none _ (heap_alloc_new w _) ((Below.refl _ _).alloc (Nat.le_refl _) _) (Nat.le_refl _) (by simp)⟩
  case round =>
    obtain ⟨k, hk, rfl, hh⟩ := hrel
    have HH := Lib.hid hh
    clear hh
    by_cases hlt : k < l.length
    · have b0 : decide ((k : Int) < (l.length : Int)) = true := decide_eq_true (by omega)
      have b1 : (k : Int) < (l.length : Int) := by omega
      obtain ⟨ad, rfl, c0, c1⟩ := kp_C (Kd.C_below HR.out HH.out.low) k hlt
      have HIN := Lib.hid (fun w1 (hb : Below wr.heap.size wr w1) => insert_any w.heap.size w w.heap.size ((l.take k).foldl ins []) (el l k).1 (el l k).2 w1 (by have := HL.out k hk; omega) (HH.out.below hb))
      have HTK : Hid (ins ((l.take k).foldl ins []) ((el l k).1, (el l k).2) = (l.take (k + 1)).foldl ins []) := Lib.hid (by rw [List.take_succ_eq_append_getElem hlt, List.foldl_append, el_get]; rfl)
      generalize (el l k).1 = y1 at *
      generalize (el l k).2 = y2 at *
      go_wp2_with (first
        | (go_at_call 41; (with_reducible refine (given_is _ _ _).mono ?_); rintro e w1 ⟨rfl, hb1⟩; have hb2 := ((Below.refl wr.heap.size wr).alloc (Nat.le_refl _) _).trans (hb1.mono (by simp)); have HI2 := Lib.hid (HIN.out w1 hb2); clear hb1 hb2)
        | (go_at_call 54; (with_reducible refine (HI2.out).mono ?_); rintro e w2 ⟨rfl, hh2⟩))
      go_roundw
      case rel => exact ⟨k + 1, by omega, by go_num, HTK.out ▸ hh2⟩
      case measure => simp [intOf]; omega
    · have b0 : decide ((k : Int) < (l.length : Int)) = false := decide_eq_false (by omega)
      obtain ⟨v, hv, hR, hnil⟩ := HH.out.value2
      have kv : wr.cell? ⟨w.heap.size, 0, none⟩ = some v := by simp [World.cell?, hv]
      have HRR := Lib.hid hR
      have HNIL := Lib.hid hnil
      clear hv hR hnil
      go_wp2
      go_ret
      have e : l.take k = l := List.take_of_length_le (by omega)
      have h := HRR.out
      rw [e] at h
      have h2 := HNIL.out
      rw [e] at h2
      exact ⟨v, rfl, h, HH.out.low, h2⟩
end Go.Proofs.Ytfegihmnpcjdgaa.Rang
