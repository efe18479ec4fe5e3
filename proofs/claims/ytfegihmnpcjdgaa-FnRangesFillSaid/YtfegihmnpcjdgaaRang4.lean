import Derived.Test.YtfegihmnpcjdgaaRang3
import Derived.Laws.CopyRow
import Derived.Laws.CopyOwn
import Derived.BigQuiet
import Derived.StillTailTactics
namespace Go.Proofs.Ytfegihmnpcjdgaa.Rang
open Go.RowKit Go.Proofs.YtfegihmnpcjdgaaW.PrintWords
set_option linter.unusedVariables false

theorem info61 : (Try.prog.info? 61).map (fun i => i.size) = some 2 := by kernel_rfl
/-- A copy of ranges within, or between, rows. -/
theorem run_copy2 (w : World) (g o dLen dCap : Nat) (a : Addr) (sLen sCap : Nat) (cur : Array Value) (cs : List Value)
    (hg : w.heap[g]? = some (.cells cur 61 (0, 0))) (hn : cs.length = Nat.min sLen dLen * 2)
    (hsrc : ∀ j v, cs[j]? = some v → w.cell? (a.add j) = some v) (hfit : o + cs.length ≤ cur.size) (h1 : ∀ v ∈ cs, v.oneCell' = true) :
    (Builtin.copy_ #[55, 55] 3 #[.slice (some ⟨g, o, none⟩) dLen dCap, .slice (some a) sLen sCap]).run Try.prog w =
      .ok (goInt (Nat.min sLen dLen : Nat)) (w.setRow g (cur.toList.take o ++ cs ++ cur.toList.drop (o + cs.length)).toArray) := by
  have hl := run_loadCells_list (P := Try.prog) w a cs hsrc
  have hst := run_storeCells_at Try.prog g o 61 cs 0 cur w hg (by simpa using hfit) h1
  have hs := info61
  cases hq : Try.prog.info? 61 with
  | none => simp [hq] at hs
  | some i =>
    have hi : i.size = 2 := by simpa [hq] using hs
    rw [hn] at hl
    simp [Builtin.copy_, run_underlying Try.underlying55, Builtin.lenOf, Builtin.firstCells, sizeOf, typeInfo, hq, hi, hl, hst]

theorem add_at (g o k : Nat) : (⟨g, o, none⟩ : Addr).add k = ⟨g, o + k, none⟩ := by
  simp [Addr.add]
  try omega
theorem sl_from (g n c j : Nat) (hj : j ≤ n) (hjc : j < c) (W : World) :
    (Instr.slice 55 (.slice (some ⟨g, 0, none⟩) n c) (some (.int .i64 (j : Int))) none none).run Try.prog W = .ok (.slice (some ⟨g, j * 2, none⟩) (n - j) (c - j)) W := by
  have hs := info61
  cases hq : Try.prog.info? 61 with
  | none => simp [hq] at hs
  | some i =>
    have hi : i.size = 2 := by simpa [hq] using hs
    have h := cut_from (P := Try.prog) 55 61 .i64 Try.underlying55 hq 2 hi (some ⟨g, 0, none⟩) n c (j : Int) (by omega) (by omega) W
    rw [h, if_neg (by simp; omega), Int.toNat_natCast]
    simp only [Option.map_some, add_at, Nat.zero_add]
theorem sl_to (g n c j : Nat) (hj : j ≤ n) (hc : n ≤ c) (W : World) :
    (Instr.slice 55 (.slice (some ⟨g, 0, none⟩) n c) none (some (.int .i64 (j : Int))) none).run Try.prog W = .ok (.slice (some ⟨g, 0, none⟩) j c) W := by
  have hs := info61
  cases hq : Try.prog.info? 61 with
  | none => simp [hq] at hs
  | some i =>
    have h := cut_to (P := Try.prog) 55 61 .i64 Try.underlying55 hq (some ⟨g, 0, none⟩) n c (j : Int) (by omega) (by omega) hc W
    rw [h]; simp

theorem flat_drop (xs : List (Int × Int)) (j : Nat) : flat (xs.drop j) = (flat xs).drop (j * 2) := by
  induction xs generalizing j with
  | nil => simp [flat]
  | cons a l ih =>
    cases j with
    | zero => simp
    | succ j =>
      have e : flat (a :: l) = .int .i64 a.1 :: .int .i64 a.2 :: flat l := rfl
      rw [e, show (j + 1) * 2 = j * 2 + 1 + 1 by omega]
      simpa using ih j
theorem flat_take (xs : List (Int × Int)) (j : Nat) : flat (xs.take j) = (flat xs).take (j * 2) := by
  induction xs generalizing j with
  | nil => simp [flat]
  | cons a l ih =>
    cases j with
    | zero => simp [flat]
    | succ j =>
      have e : flat (a :: l) = .int .i64 a.1 :: .int .i64 a.2 :: flat l := rfl
      have e2 : flat ((a :: l).take (j + 1)) = .int .i64 a.1 :: .int .i64 a.2 :: flat (l.take j) := rfl
      rw [e, e2, show (j + 1) * 2 = j * 2 + 1 + 1 by omega]
      simpa using ih j
theorem flat_one (xs : List (Int × Int)) : ∀ v ∈ flat xs, v.oneCell' = true := by
  intro v hv
  simp only [flat, List.mem_flatMap] at hv
  obtain ⟨p, _, hp⟩ := hv
  simp at hp
  rcases hp with rfl | rfl <;> rfl
theorem wpList_copy2 {w : World} {ops : Array Oper} {rest : List Oper} {o : Oper} {a : Act} {Q : Exit → Act → World → Prop} (hgd : o.guard = none) (d s : Operand)
    (ho : o.op = .call { callee := .builtin .copy, args := #[d, s], argTypes := #[55, 55] }) (hty : o.type = 3)
    (g off dLen dCap : Nat) (ad : Addr) (sLen sCap : Nat) (hd : a.eval d = .slice (some ⟨g, off, none⟩) dLen dCap) (hs : a.eval s = .slice (some ad) sLen sCap)
    (cur : Array Value) (hg : w.heap[g]? = some (.cells cur 61 (0, 0))) (cs : List Value) (hn : cs.length = Nat.min sLen dLen * 2)
    (hsrc : ∀ j v, cs[j]? = some v → w.cell? (ad.add j) = some v) (hfit : off + cs.length ≤ cur.size) (h1 : ∀ v ∈ cs, v.oneCell' = true)
    (h : wpList Try.prog ops Q rest (a.put o.dst (goInt (Nat.min sLen dLen : Nat))) (w.setRow g (cur.toList.take off ++ cs ++ cur.toList.drop (off + cs.length)).toArray)) : wpList Try.prog ops Q (o :: rest) a w := by
  refine wpList_plain hgd fun K hK => ?_
  have hrun := run_copy2 w g off dLen dCap ad sLen sCap cur cs hg hn hsrc hfit h1
  unfold Oper.wp
  simp [execOp, ho, hty, resolve, invoke, builtin, hd, hs, hrun, Result.andThen]
  exact hK _ _ (by simpa using h)

theorem row_copied {g cap : Nat} {zs : List (Int × Int)} {w : World} {cur : Array Value} (hb : Blk g cur w) (hl : cur.toList.take (zs.length * 2) = flat zs) (hc : zs.length ≤ cap) (hs : cur.size = cap * 2) (start j : Nat) (hsj : start ≤ j) (hj : j ≤ zs.length) :
    Row g cap (zs.take start ++ zs.drop j) (w.setRow g (cur.toList.take (start * 2) ++ flat (zs.drop j) ++ cur.toList.drop (start * 2 + (flat (zs.drop j)).length)).toArray) := by
  have hA : cur.toList.take (start * 2) = flat (zs.take start) := by
    rw [flat_take, ← hl, List.take_take, Nat.min_eq_left (by omega)]
  have hcl : cur.toList.length = cap * 2 := by simpa using hs
  refine ⟨_, setRow_heap _ _ _ _ _ _ hb, ?_, by simp; omega, ?_⟩
  · rw [hA]
    have : (zs.take start ++ zs.drop j).length * 2 = (flat (zs.take start) ++ flat (zs.drop j)).length := by
      rw [← flat_append, flat_len]
    rw [this, List.take_left', flat_append]
    rfl
  · have h2 := flat_len (zs.drop j)
    simp [h2, hcl]
    omega
/-- The variable that holds the row. -/
def Var (rb g n cap : Nat) (w : World) : Prop := w.heap[rb]? = some (.cells #[.slice (some ⟨g, 0, none⟩) n cap] 55 (0, 0))
theorem Var.cell {rb g n cap : Nat} {w : World} (h : Var rb g n cap w) : w.cell? ⟨rb, 0, none⟩ = some (.slice (some ⟨g, 0, none⟩) n cap) := by
  unfold Var at h; simp [World.cell?, h]
theorem Var.frozen {rb g n cap : Nat} {w : World} (h : Var rb g n cap w) (i : Nat) : w.frozen? ⟨rb, i, none⟩ = false := by
  unfold Var at h; simp [World.frozen?, h]
theorem Var.lt {rb g n cap : Nat} {w : World} (h : Var rb g n cap w) : rb < w.heap.size := (Array.getElem?_eq_some_iff.1 h).1
theorem Var.ne {rb g n cap cap' : Nat} {xs : List (Int × Int)} {w : World} (h : Var rb g n cap w) (hr : Row g cap' xs w) : rb ≠ g := by
  rintro rfl
  obtain ⟨cur, hb, _⟩ := hr
  unfold Var at h; unfold Blk at hb
  rw [h] at hb
  simp at hb
theorem Var.only {rb g n cap : Nat} {w w' : World} (h : Var rb g n cap w) (ho : Only g w w') (hne : rb ≠ g) : Var rb g n cap w' := (ho.block rb h.lt hne).trans h
/-- The state that the functions on sets go through: the variable, its row, and what is below. -/
structure St (B : Nat) (w0 : World) (rb g cap : Nat) (n : Nat) (xs : List (Int × Int)) (w : World) : Prop where
  row : Row g cap xs w
  var : Var rb g n cap w
  low : Below B w0 w
  hg : B ≤ g
  hrb : B ≤ rb
  hB : B ≤ w.heap.size
  hcap : cap ≤ maxLen
theorem St.ne {B : Nat} {w0 : World} {rb g cap n : Nat} {xs : List (Int × Int)} {w : World} (h : St B w0 rb g cap n xs w) : rb ≠ g := h.var.ne h.row
theorem St.only {B : Nat} {w0 : World} {rb g cap n : Nat} {xs ys : List (Int × Int)} {w w' : World} (h : St B w0 rb g cap n xs w) (ho : Only g w w') (hr : Row g cap ys w') : St B w0 rb g cap n ys w' :=
  ⟨hr, h.var.only ho h.ne, Below.only h.low ho h.hg h.hB, h.hg, h.hrb, Nat.le_trans h.hB ho.size, h.hcap⟩
theorem St.drew {B : Nat} {w0 : World} {rb g cap n : Nat} {xs : List (Int × Int)} {w : World} (h : St B w0 rb g cap n xs w) : St B w0 rb g cap n xs w.drew :=
  ⟨h.row, h.var, h.low.drew, h.hg, h.hrb, h.hB, h.hcap⟩

theorem St.setVar {B : Nat} {w0 : World} {rb g cap n : Nat} {xs : List (Int × Int)} {w : World} (h : St B w0 rb g cap n xs w) (m : Nat) : St B w0 rb g cap m xs (w.setCell ⟨rb, 0, none⟩ (.slice (some ⟨g, 0, none⟩) m cap)) :=
  ⟨h.row.of_heap (Below.heap_setCell w _ _ g (by have := h.ne; intro e; exact this e.symm)), blk_put h.var 0 _ rfl, h.low.setCell (p := ⟨rb, 0, none⟩) h.hrb _, h.hg, h.hrb, by have := h.hB; simpa using this, h.hcap⟩

set_option maxHeartbeats 8000000 in
set_option maxRecDepth 100000 in
theorem coalesce_any (B : Nat) (w0 : World) (rb g cap : Nat) (xs : List (Int × Int)) (i : Nat) (w : World) (hi : i < xs.length) (hn : xs.length ≤ 1000000) (hst : St B w0 rb g cap xs.length xs w) :
    Calls Try.prog 58 #[.pointer (some ⟨rb, 0, none⟩), .int .i64 i] w fun e w' => e = .returned (.tuple #[]) ∧ St B w0 rb g cap (coal xs i).length (coal xs i) w' := by
  have k0 := hst.var.cell
  have HS := Lib.hid hst
  clear hst
  go_enter Try.func58, Try.ntmps58
  go_upto_region 4 with (fail)
  go_cut [24] (fun v wc => v = .bool (decide (0 < i ∧ can (el xs (i - 1)) (el xs i) = true)) ∧ St B w0 rb g cap xs.length (if 0 < i ∧ can (el xs (i - 1)) (el xs i) = true then merged xs (i - 1) else xs) wc)
  case first =>
    by_cases h0 : 0 < i
    · have b0 : decide ((0 : Int) < (i : Int)) = true := decide_eq_true (by omega)
      have hw : IntKind.i64.wrap ((i : Int) - 1) = ((i - 1 : Nat) : Int) := by simp [IntKind.wrap, IntKind.signed, IntKind.bits]; omega
      have b1 : ((i - 1 : Nat) : Int) < (xs.length : Int) := by omega
      have b3 : (i : Int) < (xs.length : Int) := by omega
      have hmr : Calls Try.prog 57 #[.pointer (some ⟨g, (i - 1) * 2, none⟩), .pointer (some ⟨g, i * 2, none⟩)] w.drew fun e w' => e = .returned (.bool (can (el xs (i - 1)) (el xs i))) ∧ Only g w.drew w' ∧ Row g cap (merged xs (i - 1)) w' := by
        have h := merge_row g cap xs (i - 1) (by omega) w.drew HS.out.drew.row
        rw [show i - 1 + 1 = i by omega] at h
        exact h
      have HMR := Lib.hid hmr
      clear hmr
      go_still_tail 10, (by kernel_rfl)
      change wpList _ _ _ _ _ w.drew
      go_wp2_with (first | (go_at_call 57; ((with_reducible refine (HMR.out).mono ?_); rintro e w1 ⟨rfl, ho, hr⟩)))
      go_meet
      case rel =>
        have hm : ¬ can (el xs (i - 1)) (el xs i) = true → merged xs (i - 1) = xs := by
          intro hc; unfold merged; rw [show i - 1 + 1 = i by omega, if_neg hc]
        by_cases hc : can (el xs (i - 1)) (el xs i) = true
        · rw [if_pos ⟨h0, hc⟩]
          exact ⟨by rw [decide_eq_true (show 0 < i ∧ can (el xs (i - 1)) (el xs i) = true from ⟨h0, hc⟩), hc], HS.out.drew.only ho hr⟩
        · rw [if_neg (fun h => hc h.2)]
          rw [hm hc] at hr
          exact ⟨by rw [decide_eq_false (fun h => hc h.2 : ¬ (0 < i ∧ can (el xs (i - 1)) (el xs i) = true))]; simpa using hc, HS.out.drew.only ho hr⟩
    · have b0 : decide ((0 : Int) < (i : Int)) = false := decide_eq_false (by omega)
      go_region
      all_goals go_wp2
      all_goals go_meet
      all_goals (case rel =>
        rw [if_neg (fun h => h0 h.1)]
        exact ⟨by rw [decide_eq_false (fun h => h0 h.1)], HS.out.drew⟩)
  case rest =>
    obtain ⟨rfl, hst⟩ := hcut
    clear k0
    have hlen1 : (if 0 < i ∧ can (el xs (i - 1)) (el xs i) = true then merged xs (i - 1) else xs).length = xs.length := by split <;> simp [merged_len]
    generalize hys : (if 0 < i ∧ can (el xs (i - 1)) (el xs i) = true then merged xs (i - 1) else xs) = ys at hst hlen1
    generalize hst2 : (if 0 < i ∧ can (el xs (i - 1)) (el xs i) = true then i - 1 else i) = start
    have hle : start ≤ i := by rw [← hst2]; split <;> omega
    have hcoal : coal xs i = (runs xs.length ys i).1.take start ++ (runs xs.length ys i).1.drop (runs xs.length ys i).2 := by
      unfold coal
      rw [← hys, ← hst2]
      by_cases hc : 0 < i ∧ can (el xs (i - 1)) (el xs i) = true
      · simp only [if_pos hc]
      · simp only [if_neg hc]
    have HCO := Lib.hid hcoal
    clear hcoal
    go_upto_if 24 with (fail)
    go_cut [6] (fun v wc2 => v = .int .i64 start ∧ wc2 = wc)
    case first =>
      by_cases hc : 0 < i ∧ can (el xs (i - 1)) (el xs i) = true
      · have hd : decide (0 < i ∧ can (el xs (i - 1)) (el xs i) = true) = true := decide_eq_true hc
        have hw : IntKind.i64.wrap ((i : Int) - 1) = ((i - 1 : Nat) : Int) := by have := hc.1; simp [IntKind.wrap, IntKind.signed, IntKind.bits]; omega
        rw [if_pos hc] at hst2
        rw [hd]
        clear hd
        go_wp2
        go_meet
        case rel => exact ⟨by rw [← hst2], rfl⟩
      · have hd : decide (0 < i ∧ can (el xs (i - 1)) (el xs i) = true) = false := decide_eq_false hc
        rw [if_neg hc] at hst2
        rw [hd]
        clear hd
        go_wp2
        go_meet
        case rel => exact ⟨by rw [← hst2], rfl⟩
    case rest =>
      obtain ⟨rfl, rfl⟩ := hcut
      have HS2 := Lib.hid hst
      clear hst HS hys hst2
      go_wp2
      have hyl : ys.length = xs.length := hlen1
      clear hlen1
      go_loopw [5, 7] (fun v5 v7 w3 => ∃ (j : Nat) (zs : List (Int × Int)), v5 = .int .i64 j ∧ v7 = .int .i64 j ∧ i ≤ j ∧ j < xs.length ∧ zs.length = xs.length ∧ runs xs.length ys i = runs (xs.length - (j - i)) zs j ∧ St B w0 rb g cap xs.length zs w3) (fun v5 _ _ => xs.length - (intOf v5).toNat)
      case atStart => exact ⟨i, ys, rfl, rfl, by omega, hi, hyl, by rw [Nat.sub_self]; rfl, HS2.out⟩
      case round =>
        clear HS2
        obtain ⟨j, zs, rfl, rfl, hij, hj, hzl, hruns, hst⟩ := hrel
        have HR := Lib.hid hruns
        have HS := Lib.hid hst
        clear hruns hst
        have hw1 : IntKind.i64.wrap ((xs.length : Int) - 1) = ((xs.length - 1 : Nat) : Int) := by simp [IntKind.wrap, IntKind.signed, IntKind.bits]; omega
        have hw2 : wrap64 ((xs.length : Int) - 1) = ((xs.length - 1 : Nat) : Int) := by unfold wrap64; omega
        by_cases hj1 : j + 1 < xs.length
        · have b0 : decide ((j : Int) < ((xs.length - 1 : Nat) : Int)) = true := decide_eq_true (by omega)
          have b1 : (j : Int) < (xs.length : Int) := by omega
          have b2 : (j : Int) + 1 < (xs.length : Int) := by omega
          have b4 : (0 : Int) ≤ (j : Int) + 1 := by omega
          have e4 : ((j : Int) + 1).toNat = j + 1 := by omega
          have hw3 : IntKind.i64.wrap ((j : Int) + 1) = (j : Int) + 1 := by simp [IntKind.wrap, IntKind.signed, IntKind.bits]; omega
          have hmr := merge_row g cap zs j (by omega) wr.drew HS.out.drew.row
          have HMR := Lib.hid hmr
          clear hmr
          go_upto_region 9 with (fail)
          go_still_tail 7, (by kernel_rfl)
          change wpList _ _ _ _ _ wr.drew
          by_cases hc : can (el zs j) (el zs (j + 1)) = true
          · go_wp2_with (first | (go_at_call 57; ((with_reducible refine (HMR.out).mono ?_); rintro e w1 ⟨rfl, ho, hr⟩)))
            go_roundw
            case rel =>
              refine ⟨j + 1, merged zs j, by first | rfl | exact congrArg _ hw3, by first | rfl | exact congrArg _ hw3, by omega, by omega, by rw [merged_len]; exact hzl, ?_, HS.out.drew.only ho hr⟩
              rw [HR.out]
              obtain ⟨d, hd⟩ : ∃ d, xs.length - (j - i) = d + 1 := ⟨xs.length - (j - i) - 1, by omega⟩
              rw [hd, runs, if_pos (by omega), if_pos hc, show xs.length - (j + 1 - i) = d by omega]
            case measure => simp [intOf]; omega
          · have hc' : can (el zs j) (el zs (j + 1)) = false := by simpa using hc
            have hfin : runs xs.length ys i = (zs, j) := by
              rw [HR.out]
              obtain ⟨d, hd⟩ : ∃ d, xs.length - (j - i) = d + 1 := ⟨xs.length - (j - i) - 1, by omega⟩
              rw [hd, runs, if_pos (by omega), if_neg hc]
            have HF := Lib.hid hfin
            clear hfin
            have hm : merged zs j = zs := by unfold merged; rw [if_neg hc]
            have HMM := Lib.hid hm
            clear hm
            by_cases hgt : start < j
            · have b5 : decide ((start : Int) < (j : Int)) = true := decide_eq_true (by omega)
              have hcl := HS.out.row.le
              have s1 := fun W => sl_from g xs.length cap start (by omega) (by omega) W
              have s2 := fun W => sl_from g xs.length cap j (by omega) (by omega) W
              go_wp2_with (first | (go_at_call 57; ((with_reducible refine (HMR.out).mono ?_); rintro e w1 ⟨rfl, ho, hr⟩)))
              rw [HMM.out] at hr
              have H3 := Lib.hid (HS.out.drew.only ho hr)
              clear hr ho HMR HS
              go_upto_region 12 with (fail)
              go_still_tail 6, (by kernel_rfl)
              change wpList _ _ _ _ _ w1.drew
              obtain ⟨cur, hcb, hcl1, hcl2, hcl3⟩ := H3.out.drew.row
              have hflen := flat_len zs
              have hsrc : ∀ k v, (flat (zs.drop j))[k]? = some v → w1.drew.cell? ((⟨g, j * 2, none⟩ : Addr).add k) = some v := by
                intro k v hk
                rw [flat_drop, List.getElem?_drop] at hk
                have hlt := (List.getElem?_eq_some_iff.1 hk).1
                rw [hflen] at hlt
                rw [← hcl1, List.getElem?_take_of_lt hlt] at hk
                rw [add_at]
                exact hcb.cell _ _ (by simpa using hk)
              have hmin : Nat.min (xs.length - j) (xs.length - start) = xs.length - j := Nat.min_eq_left (by omega)
              have hmin := hmin
              refine wpList_copy2 rfl (.tmp 51) (.tmp 54) rfl rfl g (start * 2) (xs.length - start) (cap - start) ⟨g, j * 2, none⟩ (xs.length - j) (cap - j) rfl rfl cur hcb (flat (zs.drop j)) (by rw [flat_len, hmin]; simp; omega) hsrc (by rw [flat_len]; simp; omega) (flat_one _) ?_
              have hrow := row_copied hcb hcl1 hcl2 hcl3 start j (by omega) (by omega)
              have hon : Only g w1.drew (w1.drew.setRow g (cur.toList.take (start * 2) ++ flat (zs.drop j) ++ cur.toList.drop (start * 2 + (flat (zs.drop j)).length)).toArray) :=
                ⟨rfl, rfl, rfl, by simp [World.setRow], fun k _ hne => setRow_other _ _ _ _ hne⟩
              have hst4 := H3.out.drew.only hon hrow
              have H4 := Lib.hid hst4
              clear hon hrow hsrc hcb hcl1 hcl2 hcl3 hst4 H3
              generalize (w1.drew.setRow g (cur.toList.take (start * 2) ++ flat (zs.drop j) ++ cur.toList.drop (start * 2 + (flat (zs.drop j)).length)).toArray) = w5 at H4 ⊢
              have k0 := H4.out.var.cell
              have f0 := H4.out.var.frozen 0
              have s3 := fun W => sl_to g xs.length cap (xs.length - j + start) (by omega) (by omega) W
              have hw5 : IntKind.i64.wrap ((xs.length : Int) - (j : Int)) = ((xs.length - j : Nat) : Int) := by simp [IntKind.wrap, IntKind.signed, IntKind.bits]; omega
              have hw6 : IntKind.i64.wrap (((xs.length - j : Nat) : Int) + (start : Int)) = ((xs.length - j + start : Nat) : Int) := by simp [IntKind.wrap, IntKind.signed, IntKind.bits]; omega
              go_wp2
              have he : coal xs i = zs.take start ++ zs.drop j := by rw [HCO.out, HF.out]
              have hl : (coal xs i).length = xs.length - j + start := by rw [he]; simp; omega
              have H5 := H4.out.setVar (xs.length - j + start)
              rw [← he, ← hl] at H5
              go_end0
              rw [hl] at H5 ⊢
              exact ⟨rfl, H5⟩
            · have b5 : decide ((start : Int) < (j : Int)) = false := decide_eq_false (by omega)
              go_wp2_with (first | (go_at_call 57; ((with_reducible refine (HMR.out).mono ?_); rintro e w1 ⟨rfl, ho, hr⟩)))
              rw [HMM.out] at hr
              have H3 := Lib.hid (HS.out.drew.only ho hr)
              clear hr ho HMR HS
              go_end0
              have he : coal xs i = zs := by
                rw [HCO.out, HF.out, show start = j by omega]; exact List.take_append_drop _ _
              rw [he, hzl]
              exact ⟨rfl, H3.out⟩
        · have b0 : decide ((j : Int) < ((xs.length - 1 : Nat) : Int)) = false := decide_eq_false (by omega)
          have hfin : runs xs.length ys i = (zs, j) := by
            rw [HR.out]
            obtain ⟨d, hd⟩ : ∃ d, xs.length - (j - i) = d + 1 := ⟨xs.length - (j - i) - 1, by omega⟩
            rw [hd, runs, if_neg (by omega)]
          have HF := Lib.hid hfin
          clear hfin
          have hcl := HS.out.row.le
          by_cases hgt : start < j
          · have b5 : decide ((start : Int) < (j : Int)) = true := decide_eq_true (by omega)
            have s1 := fun W => sl_from g xs.length cap start (by omega) (by omega) W
            have s2 := fun W => sl_from g xs.length cap j (by omega) (by omega) W
            have H3 := HS
            clear HS
            go_upto_region 12 with (fail)
            go_still_tail 6, (by kernel_rfl)
            change wpList _ _ _ _ _ wr.drew
            obtain ⟨cur, hcb, hcl1, hcl2, hcl3⟩ := H3.out.drew.row
            have hflen := flat_len zs
            have hsrc : ∀ k v, (flat (zs.drop j))[k]? = some v → wr.drew.cell? ((⟨g, j * 2, none⟩ : Addr).add k) = some v := by
              intro k v hk
              rw [flat_drop, List.getElem?_drop] at hk
              have hlt := (List.getElem?_eq_some_iff.1 hk).1
              rw [hflen] at hlt
              rw [← hcl1, List.getElem?_take_of_lt hlt] at hk
              rw [add_at]
              exact hcb.cell _ _ (by simpa using hk)
            have hmin : Nat.min (xs.length - j) (xs.length - start) = xs.length - j := Nat.min_eq_left (by omega)
            have hmin := hmin
            refine wpList_copy2 rfl (.tmp 51) (.tmp 54) rfl rfl g (start * 2) (xs.length - start) (cap - start) ⟨g, j * 2, none⟩ (xs.length - j) (cap - j) rfl rfl cur hcb (flat (zs.drop j)) (by rw [flat_len, hmin]; simp; omega) hsrc (by rw [flat_len]; simp; omega) (flat_one _) ?_
            have hrow := row_copied hcb hcl1 hcl2 hcl3 start j (by omega) (by omega)
            have hon : Only g wr.drew (wr.drew.setRow g (cur.toList.take (start * 2) ++ flat (zs.drop j) ++ cur.toList.drop (start * 2 + (flat (zs.drop j)).length)).toArray) :=
              ⟨rfl, rfl, rfl, by simp [World.setRow], fun k _ hne => setRow_other _ _ _ _ hne⟩
            have hst4 := H3.out.drew.only hon hrow
            have H4 := Lib.hid hst4
            clear hon hrow hsrc hcb hcl1 hcl2 hcl3 hst4 H3
            generalize (wr.drew.setRow g (cur.toList.take (start * 2) ++ flat (zs.drop j) ++ cur.toList.drop (start * 2 + (flat (zs.drop j)).length)).toArray) = w5 at H4 ⊢
            have k0 := H4.out.var.cell
            have f0 := H4.out.var.frozen 0
            have s3 := fun W => sl_to g xs.length cap (xs.length - j + start) (by omega) (by omega) W
            have hw5 : IntKind.i64.wrap ((xs.length : Int) - (j : Int)) = ((xs.length - j : Nat) : Int) := by simp [IntKind.wrap, IntKind.signed, IntKind.bits]; omega
            have hw6 : IntKind.i64.wrap (((xs.length - j : Nat) : Int) + (start : Int)) = ((xs.length - j + start : Nat) : Int) := by simp [IntKind.wrap, IntKind.signed, IntKind.bits]; omega
            go_wp2
            have he : coal xs i = zs.take start ++ zs.drop j := by rw [HCO.out, HF.out]
            have hl : (coal xs i).length = xs.length - j + start := by rw [he]; simp; omega
            have H5 := H4.out.setVar (xs.length - j + start)
            rw [← he, ← hl] at H5
            go_end0
            rw [hl] at H5 ⊢
            exact ⟨rfl, H5⟩
          · have b5 : decide ((start : Int) < (j : Int)) = false := decide_eq_false (by omega)
            have H3 := HS
            clear HS
            go_wp2
            go_end0
            have he : coal xs i = zs := by
              rw [HCO.out, HF.out, show start = j by omega]; exact List.take_append_drop _ _
            rw [he, hzl]
            exact ⟨rfl, H3.out⟩
end Go.Proofs.Ytfegihmnpcjdgaa.Rang
