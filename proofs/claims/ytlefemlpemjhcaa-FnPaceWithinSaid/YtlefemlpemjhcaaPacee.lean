import Derived.Test.YtlefemlpemjhcaaPaced
import Derived.RegionCalls
import Derived.Deep.RegionWith
namespace Go.Proofs.Ytlefemlpemjhcaa.Pace
open Go.RowKit

theorem LastIs.below {o : Option Int} {n : Nat} {v : Value} {w w' : World} (h : LastIs o n v w) (hb : Below w.heap.size w w') : LastIs o n v w' := by
  cases o with
  | none => exact h
  | some t => obtain ⟨b, e, ha⟩ := h; exact ⟨b, e, ha.below hb⟩
theorem LastIs.iface {o : Option Int} {n : Nat} {v : Value} {w : World} (h : LastIs o n v w) : IsIface v := by
  cases o with
  | none => rcases h with rfl | ⟨b, rfl⟩
            · exact .inl rfl
            · exact .inr ⟨_, _, rfl⟩
  | some t => obtain ⟨b, rfl, _⟩ := h; exact .inr ⟨_, _, rfl⟩

theorem calc_any (b : Nat) (m x d a s r : Int) (o : Option Int) (n : Nat) (v : Value) (w : World) (hO : Opt b m x d a w) (hl : LastIs o n v w) (s0 : 0 ≤ s) (s1 : s ≤ 1099511627776) (d0 : 0 ≤ d) (d1 : d ≤ 16) (a0 : 0 ≤ a) (a1 : a ≤ 16) :
    Calls Try.prog 18 #[.pointer (some ⟨b, 0, none⟩), .agg #[.int .i64 s, .int .i64 r, v]] w fun e w' => e = .returned (.int .i64 (calcAll m x d a s r o)) ∧ Below w.heap.size w w' := by
  have hi := hl.iface
  cases o with
  | some t =>
    obtain ⟨c, rfl, ha⟩ := hl
    exact calc_after b m x d a s r t c n w hO ha
  | none =>
    by_cases hr : 0 < r
    · by_cases h0 : a = 0
      · subst h0
        refine (calc_retry0 b m x d s r v hl hi w hO hr).mono ?_
        rintro e w' ⟨rfl, hb⟩
        exact ⟨ret_int (by simp [calcAll, hr, calcRetry]), hb⟩
      · refine (calc_retry b m x d a s r v hl hi w hO hr s0 s1 (by omega) a1).mono ?_
        rintro e w' ⟨rfl, hb⟩
        exact ⟨ret_int (by simp [calcAll, hr]), hb⟩
    · refine (calc_rest b m x d a s r v hl hi w hO hr s0 s1 d0 d1).mono ?_
      rintro e w' ⟨rfl, hb⟩
      exact ⟨ret_int (by simp [calcAll, hr]), hb⟩

set_option maxHeartbeats 4000000 in
set_option maxRecDepth 100000 in
theorem default_any (o0 o1 o2 o3 s0 s1 s2 : Int) (n : Nat) (hn : n ≤ 1000) (h0 : 0 ≤ s0) (h1 : s0 ≤ 1099511627776) (h2 : o2 ≤ 16) (h3 : o3 ≤ 16) (w : World) :
    Calls Try.prog 9 #[.agg #[.int .i64 o0, .int .i64 o1, .int .i64 o2, .int .i64 o3], .agg #[.int .i64 s0, .int .i64 s1, .int .i64 s2, .int .i64 n]] w fun e w' =>
      e = .returned (.int .i64 (calcAll (orElse o0 10000000) (orElse o1 2000000000) (orElse o2 2) (orElse o3 1) s0 s1 (tells s1 s2 n))) ∧ Below w.heap.size w w' := by
  have d0 : 0 ≤ orElse o2 2 ∧ orElse o2 2 ≤ 16 := by unfold orElse; split <;> omega
  have a0 : 0 ≤ orElse o3 1 ∧ orElse o3 1 ≤ 16 := by unfold orElse; split <;> omega
  go_enter Try.func9, Try.ntmps9
  go_wp2
  go_region_with (first
    | (go_at_call 17; (with_reducible refine (new_of _ _ _ _ _ (by omega) (by omega)).mono ?_); rintro e w1 ⟨c, rfl, hO, hbO, hle⟩; obtain ⟨hcO, hfO⟩ := bcell hbO; have hzO := hbO.size; try simp at hzO)
    | (go_at_call 19; (with_reducible refine (stated _ _ _ n hn _).mono ?_); rintro e w2 ⟨v, rfl, hl, hbS⟩; obtain ⟨hcS, hfS⟩ := bcell hbS; have hzS := hbS.size; try simp at hzS)
    | (go_at_call 18; first
        | ((with_reducible refine (calc_any _ _ _ _ _ _ _ _ n _ _ hO (hl.below hbO) h0 h1 d0.1 d0.2 a0.1 a0.2).mono ?_); rintro e w3 ⟨rfl, hb3⟩)
        | ((with_reducible refine (calc_any _ _ _ _ _ _ _ _ n _ _ (hO.below hbS hO.lt) hl h0 h1 d0.1 d0.2 a0.1 a0.2).mono ?_); rintro e w3 ⟨rfl, hb3⟩)))
  all_goals go_wp2
  all_goals go_ret
  all_goals first
    | exact ⟨rfl, (((((Below.refl _ _).alloc (Nat.le_refl _) _).alloc (by simp) _).drew.trans (hbO.mono (by simp; omega))).trans (hbS.mono (by omega))).trans (hb3.mono (by omega))⟩
    | exact ⟨rfl, (((((Below.refl _ _).alloc (Nat.le_refl _) _).alloc (by simp) _).drew.trans (hbS.mono (by simp; omega))).trans (hbO.mono (by omega))).trans (hb3.mono (by omega))⟩

set_option maxHeartbeats 1000000 in
theorem zero_any (s0 s1 s2 : Int) (n : Nat) (hn : n ≤ 1000) (w : World) :
    Calls Try.prog 12 #[.agg #[.int .i64 s0, .int .i64 s1, .int .i64 s2, .int .i64 n]] w fun e w' => e = .returned (.int .i64 0) ∧ Below w.heap.size w w' := by
  go_enter Try.func12, Try.ntmps12
  go_wp2_with (first | (go_at_call 19; (with_reducible refine (stated _ _ _ n hn _).mono ?_); rintro e w2 ⟨v, rfl, hl, hbS⟩; obtain ⟨hcS, hfS⟩ := bcell hbS; have hzS := hbS.size; try simp at hzS) | go_in)
  go_ret
  exact ⟨rfl, ((((Below.refl _ _).alloc (Nat.le_refl _) _).alloc (by simp) _).trans (hbS.mono (by simp; omega))).alloc (by omega) _⟩
end Go.Proofs.Ytlefemlpemjhcaa.Pace
