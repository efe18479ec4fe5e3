import Derived.Test.YtfegihmnpcjdgaaRang7
namespace Go.Proofs.Ytfegihmnpcjdgaa.Rang
open Go.RowKit Go.Proofs.YtfegihmnpcjdgaaW.PrintWords Go.Proofs.YtfegihmnpcjdgaaW.PrintMore
set_option linter.unusedVariables false

theorem Holds.hB {B : Nat} {w0 : World} {rb : Nat} {xs : List (Int × Int)} {w : World} (h : Holds B w0 rb xs w) : B ≤ w.heap.size := by
  cases h with
  | none _ _ _ _ h => exact h
  | some _ g cap _ h _ => exact St.hB h
theorem Holds.rlt {B : Nat} {w0 : World} {rb : Nat} {xs : List (Int × Int)} {w : World} (h : Holds B w0 rb xs w) : rb < w.heap.size := by
  cases h with
  | none _ h _ _ _ => exact (Array.getElem?_eq_some_iff.1 h).1
  | some _ g cap _ h _ => exact (St.var h).lt
theorem Holds.hrb {B : Nat} {w0 : World} {rb : Nat} {xs : List (Int × Int)} {w : World} (h : Holds B w0 rb xs w) : B ≤ rb := by
  cases h with
  | none _ _ _ h _ => exact h
  | some _ g cap _ h _ => exact St.hrb h
theorem Holds.below {B : Nat} {w0 : World} {rb : Nat} {xs : List (Int × Int)} {w w' : World} (h : Holds B w0 rb xs w) (hb : Below w.heap.size w w') : Holds B w0 rb xs w' := by
  cases h with
  | none _ h h1 h2 h3 => exact .none w' ((hb.block rb (Array.getElem?_eq_some_iff.1 h).1).trans h) (h1.trans (hb.mono h3)) h2 (Nat.le_trans h3 hb.size)
  | some _ g cap _ h hx => exact .some w' g cap xs (St.below h hb) hx
/-- What the variable holds reads as the set. -/
theorem Holds.value {B : Nat} {w0 : World} {rb : Nat} {xs : List (Int × Int)} {w : World} (h : Holds B w0 rb xs w) : ∃ v, w.heap[rb]? = Option.some (.cells #[v] 55 (0, 0)) ∧ kp.R 61 w B (fun _ => True) v xs := by
  cases h with
  | none _ h _ _ _ => exact ⟨_, h, Kd.R_nil _ _ _ _ _⟩
  | some _ g cap _ h hx => exact ⟨_, St.var h, St.own h⟩
/-- INSERT. -/
theorem insert_any (B : Nat) (w0 : World) (rb : Nat) (xs : List (Int × Int)) (r1 r2 : Int) (w : World) (hn : xs.length ≤ 900000) (h : Holds B w0 rb xs w) :
    Calls Try.prog 54 #[.pointer (some ⟨rb, 0, none⟩), .agg #[.int .i64 r1, .int .i64 r2]] w fun e w' => e = .returned (.tuple #[]) ∧ Holds B w0 rb (ins xs (r1, r2)) w' := by
  by_cases hr : r2 ≤ 0
  · refine (insert_empty B w0 rb xs (r1, r2) w hr h).mono ?_
    rintro e w' ⟨rfl, hb⟩
    refine ⟨rfl, ?_⟩
    unfold ins; rw [if_pos hr]
    exact h.below hb
  by_cases hx : xs = []
  · subst hx
    have e : ins [] (r1, r2) = [(r1, r2)] := by unfold ins; rw [if_neg hr, if_pos rfl]
    rw [e]
    cases h with
    | none _ h h1 h2 h3 => exact insert_first B w0 rb (r1, r2) w hr h h1 h2 h3
    | some _ g cap _ h hx => exact absurd rfl hx
  · have e : ins xs (r1, r2) = coal (put xs (r1, r2) (place xs r1)) (place xs r1) := by unfold ins; rw [if_neg hr, if_neg hx]
    rw [e]
    have hpl := place_le xs r1
    cases h with
    | none => exact absurd rfl hx
    | some _ g cap _ h _ =>
      by_cases hlt : place xs r1 < xs.length
      · by_cases hc : can (r1, r2) (el xs (place xs r1)) = true
        · have e2 : put xs (r1, r2) (place xs r1) = xs.set (place xs r1) (mg (r1, r2) (el xs (place xs r1))) := by unfold put; rw [if_pos ⟨hlt, hc⟩]
          rw [e2]
          exact insert_merge B w0 rb g cap xs r1 r2 w hr (by omega) h _ rfl hlt hc
        · have e2 : put xs (r1, r2) (place xs r1) = xs.take (place xs r1) ++ (r1, r2) :: xs.drop (place xs r1) := by unfold put; rw [if_neg (fun h => hc h.2)]
          rw [e2]
          exact insert_at B w0 rb g cap xs r1 r2 w hr hn h hx _ rfl hlt (by simpa using hc)
      · have e2 : put xs (r1, r2) (place xs r1) = xs.take (place xs r1) ++ (r1, r2) :: xs.drop (place xs r1) := by unfold put; rw [if_neg (fun h => hlt h.1)]
        rw [e2]
        exact insert_end B w0 rb g cap xs r1 r2 w hr hn h hx _ rfl (by omega)

/-! ### rows that came in -/
theorem C_iso {α β : Type} {d : Kd α} {f : β → α} {w : World} {A : Option Addr} {n : Nat} {xs : List β} (h : (Kd.iso d f).C w A n xs) : d.C w A n (xs.map f) := by
  refine ⟨by have := h.1; simpa using this, h.2.1, fun hp => ?_⟩
  obtain ⟨ad, e, hc⟩ := h.2.2 hp
  refine ⟨ad, e, fun j p hj => ?_⟩
  rw [List.getElem?_map] at hj
  cases hq : xs[j]? with
  | none => rw [hq] at hj; simp at hj
  | some q =>
    rw [hq] at hj
    simp at hj
    subst hj
    exact hc j q hq
theorem R_iso {α β : Type} {d : Kd α} {f : β → α} {e : Nat} {w : World} {base : Nat} {ok : Nat → Prop} {v : Value} {xs : List β} (h : d.R e w base ok v (xs.map f)) : (Kd.iso d f).R e w base ok v xs := by
  obtain ⟨h0, inner, ho, hr⟩ := h
  have hm : (xs.map f).length = xs.length := by simp
  refine ⟨h0, inner, hm ▸ ho, hm ▸ hr.1, fun j p hj => ?_⟩
  exact hr.2 j (f p) (by rw [List.getElem?_map, hj]; rfl)
theorem kp_C {w : World} {A : Option Addr} {n : Nat} {xs : List (Int × Int)} (h : kp.C w A n xs) (i : Nat) (hi : i < xs.length) :
    ∃ ad, A = some ad ∧ w.cell? (ad.add (i * 2)) = some (.int .i64 (el xs i).1) ∧ w.cell? ⟨(ad.add (i * 2)).block, (ad.add (i * 2)).off + 1, none⟩ = some (.int .i64 (el xs i).2) := by
  obtain ⟨ad, c, e, _, hK, hc0⟩ := Kd.C_get h (0, 0) (i : Int) (by omega) (by have := h.1; omega)
  have hc : ∀ j u, c[j]? = some u → w.cell? (ad.add (i * 2 + j)) = some u := hc0
  have hK2 : c = [.int .i64 (el xs i).1, .int .i64 (el xs i).2] := by
    obtain ⟨_, _, rfl, rfl, rfl⟩ := hK
    rfl
  subst hK2
  exact ⟨ad, e, hc 0 _ rfl, by rw [← add_field _ _ 1 (by omega)]; exact hc 1 _ rfl⟩

theorem given_is (a b : Int) (w : World) : Calls Try.prog 41 #[.agg #[.int .i64 a, .int .i64 b]] w fun e w' => e = .returned (.agg #[.int .i64 a, .int .i64 b]) ∧ Below w.heap.size w w' := by
  go_enter Try.func41, Try.ntmps41
  go_wp2
  go_outline
  refine bodyPost_ret (v := .agg #[.int .i64 a, .int .i64 b]) (by simp [results, Try.results41, go_sem]) rfl ⟨rfl, ?_⟩
  repeat (first | exact Below.refl _ _ | refine Below.setCell ?_ (by simp) _ | refine Below.alloc ?_ (by simp) _ | refine Below.drew ?_)
set_option maxHeartbeats 8000000 in
set_option maxRecDepth 100000 in
/-- INSERTED: one range behind the other into nothing. -/
theorem inserted_any (A : Option Addr) (c : Nat) (l : List (Int × Int)) (w : World) (hn : l.length ≤ 800000) (hl : ∀ k, k ≤ l.length → ((l.take k).foldl ins []).length ≤ k) (hr : kp.C w A l.length l) (hc : l.length ≤ c) :
    Calls Try.prog 38 #[.slice A l.length c] w fun e w' => ∃ v, e = .returned v ∧ kp.R 61 w' w.heap.size (fun _ => True) v (l.foldl ins []) ∧ Below w.heap.size w w' := by
  have HR := Lib.hid hr
  have HL := Lib.hid hl
  clear hr hl
  go_enter Try.func38, Try.ntmps38
  go_wp2
  have hz : w.heap.size < (w.alloc (.cells #[.slice none 0 0] 55)).heap.size := by simp
  go_loopw [8] (fun v8 wr => ∃ k : Nat, k ≤ l.length ∧ v8 = .int .i64 k ∧ Holds w.heap.size w w.heap.size ((l.take k).foldl ins []) wr) (fun v8 _ => l.length - (intOf v8).toNat)
  case atStart => exact ⟨0, Nat.zero_le _, rfl, .none _ (heap_alloc_new w _) ((Below.refl _ _).alloc (Nat.le_refl _) _) (Nat.le_refl _) (by simp)⟩
  case round =>
    obtain ⟨k, hk, rfl, hh⟩ := hrel
    have HH := Lib.hid hh
    clear hh
    by_cases hlt : k < l.length
    · have b0 : decide ((k : Int) < (l.length : Int)) = true := decide_eq_true (by omega)
      have b1 : (k : Int) < (l.length : Int) := by omega
      obtain ⟨ad, rfl, c0, c1⟩ := kp_C (Kd.C_below HR.out HH.out.low) k hlt
      have HIN := Lib.hid (fun w1 (hb : Below wr.heap.size wr w1) => insert_any w.heap.size w w.heap.size ((l.take k).foldl ins []) (el l k).1 (el l k).2 w1 (by have := HL.out k hk; omega) (HH.out.below hb))
      have HTK : Hid (ins ((l.take k).foldl ins []) ((el l k).1, (el l k).2) = (l.take (k + 1)).foldl ins []) := Lib.hid (by rw [List.take_succ_eq_append_getElem hlt, List.foldl_append, el_get]; rfl)
      generalize (el l k).1 = y1 at *
      generalize (el l k).2 = y2 at *
      go_wp2_with (first
        | (go_at_call 41; (with_reducible refine (given_is _ _ _).mono ?_); rintro e w1 ⟨rfl, hb1⟩; have hb2 := ((Below.refl wr.heap.size wr).alloc (Nat.le_refl _) _).trans (hb1.mono (by simp)); have HI2 := Lib.hid (HIN.out w1 hb2); clear hb1 hb2)
        | (go_at_call 54; (with_reducible refine (HI2.out).mono ?_); rintro e w2 ⟨rfl, hh2⟩))
      go_roundw
      case rel => exact ⟨k + 1, by omega, by go_num, HTK.out ▸ hh2⟩
      case measure => simp [intOf]; omega
    · have b0 : decide ((k : Int) < (l.length : Int)) = false := decide_eq_false (by omega)
      obtain ⟨v, hv, hR⟩ := HH.out.value
      have kv : wr.cell? ⟨w.heap.size, 0, none⟩ = some v := by simp [World.cell?, hv]
      have HRR := Lib.hid hR
      clear hv hR
      go_wp2
      go_ret
      have e : l.take k = l := List.take_of_length_le (by omega)
      have h := HRR.out
      rw [e] at h
      exact ⟨v, rfl, h, HH.out.low⟩
end Go.Proofs.Ytfegihmnpcjdgaa.Rang
