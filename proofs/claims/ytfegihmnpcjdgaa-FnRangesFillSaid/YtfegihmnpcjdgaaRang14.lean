import Derived.Test.YtfegihmnpcjdgaaRang9
import Derived.WalkSpells
namespace Go.Proofs.Ytfegihmnpcjdgaa.Rang
open Go.RowKit Go.Proofs.YtfegihmnpcjdgaaW.PrintWords Go.Proofs.YtfegihmnpcjdgaaW.PrintMore
set_option linter.unusedVariables false
set_option linter.unusedSimpArgs false
set_option maxHeartbeats 8000000 in
theorem equal_any (A1 A2 : Option Addr) (c1 c2 : Nat) (l m : List (Int × Int)) (w : World) (hn : l.length ≤ 1000000) (h1 : kp.C w A1 l.length l) (h2 : kp.C w A2 m.length m) :
    Calls Try.prog 53 #[.slice A1 l.length c1, .slice A2 m.length c2] w fun e w' => e = .returned (.bool (decide (l = m))) ∧ Below w.heap.size w w' := by
  by_cases hlm : l.length = m.length
  · have d0 : ((l.length : Int) != (m.length : Int)) = false := by simp; omega
    have hnil1 : (A1.isNone || A2.isNone) = true → l = m := by
      intro h
      rcases Nat.eq_zero_or_pos l.length with h0 | h0
      · have e1 := List.eq_nil_of_length_eq_zero h0
        have e2 : m = [] := List.eq_nil_of_length_eq_zero (by omega)
        rw [e1, e2]
      · exfalso
        obtain ⟨a, rfl, _⟩ := kp_C h1 0 h0
        obtain ⟨b, rfl, _⟩ := kp_C h2 0 (by omega)
        simp at h
    have H1 := Lib.hid h1
    have H2 := Lib.hid h2
    have HL := Lib.hid hlm
    clear h1 h2 hlm
    have en : ∀ (A : Option Addr) (n c : Nat) (w : World), (binOp .eql 55 (.slice A n c) (.slice none 0 0)).run Try.prog w = .ok (.bool A.isNone) w := fun A n c w => Lib.run_eql_slice_nil w 55 61 A n c 0 0 Try.underlying55
    have HNIL := Lib.hid hnil1
    clear hnil1
    by_cases hnil : (A1.isNone || A2.isNone) = true
    · have he := HNIL.out hnil
      have hd : decide (l = m) = true := decide_eq_true he
      rw [hd]
      clear hd he
      rcases A1 with _ | a1
      · go_enter Try.func53, Try.ntmps53
        go_wp2
        go_ret
        exact ⟨rfl, Below.refl _ _⟩
      · rcases A2 with _ | a2
        · go_enter Try.func53, Try.ntmps53
          go_wp2
          go_ret
          exact ⟨rfl, Below.refl _ _⟩
        · simp at hnil
    · rcases A1 with _ | a1
      · simp at hnil
      rcases A2 with _ | a2
      · simp at hnil
      clear hnil HNIL
      generalize hq : decide (l = m) = q
      have HQ := Lib.hid hq
      clear hq
      go_enter Try.func53, Try.ntmps53
      go_wp2
      go_loopw [19] (fun v19 wr => ∃ i : Nat, i ≤ l.length ∧ v19 = .int .i64 i ∧ l.take i = m.take i ∧ Below w.heap.size w wr) (fun v19 _ => l.length - (intOf v19).toNat)
      case atStart => exact ⟨0, Nat.zero_le _, rfl, rfl, Below.refl _ _⟩
      case round =>
        obtain ⟨i, hi, rfl, htk, hb⟩ := hrel
        have HT := Lib.hid htk
        have HB := Lib.hid hb
        clear htk hb
        by_cases hlt : i < l.length
        · have b0 : decide ((i : Int) < (l.length : Int)) = true := decide_eq_true (by omega)
          have b1 : (i : Int) < (l.length : Int) := by omega
          have b2 : (i : Int) < (m.length : Int) := by have := HL.out; omega
          have hlt2 : i < m.length := by omega
          obtain ⟨x1, e1, p0, p1⟩ := kp_C (Kd.C_below H1.out HB.out) i hlt
          injection e1 with e1; subst e1
          obtain ⟨x2, e2, r0, r1⟩ := kp_C (Kd.C_below H2.out HB.out) i hlt2
          injection e2 with e2; subst e2
          have hnx : el l i = el m i → l.take (i + 1) = m.take (i + 1) := fun he => by
            rw [List.take_succ_eq_append_getElem hlt, List.take_succ_eq_append_getElem hlt2, el_get, el_get, he, HT.out]
          have hne : el l i ≠ el m i → decide (l = m) = false := fun he => decide_eq_false (fun h => he (by rw [h]))
          have HNX := Lib.hid hnx
          have HNE := Lib.hid hne
          clear hnx hne
          generalize el l i = x at *
          generalize el m i = y at *
          obtain ⟨x0, x1⟩ := x
          obtain ⟨y0, y1⟩ := y
          by_cases hx : x0 = y0
          · subst hx
            by_cases hy : x1 = y1
            · subst hy
              have he := HNX.out rfl
              have HE := Lib.hid he
              clear he HNX HNE
              go_upto_region 8 with (fail)
              go_region
              all_goals go_wp2
              all_goals (go_roundw; (case rel => exact ⟨i + 1, by omega, by go_num, HE.out, HB.out.drew⟩); (case measure => simp [intOf]; omega))
            · have he : q = false := by rw [← HQ.out]; exact HNE.out (fun h => hy (Prod.mk.inj h).2)
              subst he
              clear HNX HNE
              go_upto_region 8 with (fail)
              go_region
              all_goals go_wp2
              all_goals go_ret
              all_goals exact ⟨rfl, HB.out.drew⟩
          · have he : q = false := by rw [← HQ.out]; exact HNE.out (fun h => hx (Prod.mk.inj h).1)
            subst he
            clear HNX HNE
            go_upto_region 8 with (fail)
            go_region
            all_goals go_wp2
            all_goals go_ret
            all_goals exact ⟨rfl, HB.out.drew⟩
        · have b0 : decide ((i : Int) < (l.length : Int)) = false := decide_eq_false (by omega)
          have he : q = true := by
            rw [← HQ.out]
            refine decide_eq_true ?_
            have h := HT.out
            rw [List.take_of_length_le (by omega), List.take_of_length_le (by have := HL.out; omega)] at h
            exact h
          subst he
          go_wp2
          go_ret
          exact ⟨rfl, HB.out⟩
  · have d0 : ((l.length : Int) != (m.length : Int)) = true := by simp; omega
    have hne : decide (l = m) = false := decide_eq_false (fun h => hlm (by rw [h]))
    rw [hne]
    clear hne hlm
    go_enter Try.func53, Try.ntmps53
    go_wp2
    go_ret
    exact ⟨rfl, Below.refl _ _⟩
end Go.Proofs.Ytfegihmnpcjdgaa.Rang
