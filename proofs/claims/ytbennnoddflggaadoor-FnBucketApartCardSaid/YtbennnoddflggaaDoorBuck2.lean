import Derived.Test.YtbennnoddflggaaDoorBuck
namespace Go.Proofs.YtbennnoddflggaaDoor.Buck
open Go.RowKit Go.Proofs.YtbennnoddflggaaDoorW.PrintWords
set_option linter.unusedVariables false
set_option linter.unusedSimpArgs false
variable {w0 wS : World} {b : Bs} {f : St} {n : Nat} {s : Step} {a : Ans} {w : World}
theorem Env.glob (h : Env w0 wS b f n s a w) : w.cell? ⟨0, 0, none⟩ = some (errAtA b.eg) := h.told'.1
set_option maxHeartbeats 1600000 in
theorem remove_new_good (h : Env w0 wS b f n s no w) (hn : n + 2 < maxLen) (hs : s.name.size ≤ maxLen) (he : s.name.toList ≠ ([] : List UInt8)) (hf : f s.name = none) (hg : s.good = true) :
    Calls Tryd.prog 19 #[.pointer (some ⟨b.bc, 0, none⟩), .string s.name, actV b] w (CPost w0 wS b n s (remove f s)) := by
  have hb : (s.name.toList == ([] : List UInt8)) = false := beq_eq_false_iff_ne.mpr he
  have cc := cell_of h.cache 0 (v := .map (some b.bm)) rfl
  have cg := h.glob
  have hlk := h.map.look s.name hs
  have HN := Lib.hid hn
  have HS := Lib.hid hs
  have HE := Lib.hid h
  rw [show remove f s = (upd f s.name false, (false, true, false, 0)) by unfold remove; rw [if_neg he, if_neg (by rw [hf]; simp)]; simp [hg, errOf]]
  rw [hf] at hlk
  have hlk' : (Instr.lookup 46 (.map (some b.bm)) (.string s.name) true).run Tryd.prog w = .ok (.tuple #[.bool false, .bool false]) w := hlk
  clear hlk hf
  clear h he hn hs
  have q1 := neq_nil
  have q2 := neq_err
  have q3 := eql_nil
  have q4 := eql_err
  go_enter Tryd.func19, Tryd.ntmps19
  go_wp2_with (first | (go_at_call 13; (with_reducible refine (act_good HE.out hg).mono ?_); rintro e w5 ⟨rfl, he5⟩; have cc5 := cell_of he5.cache 0 (v := .map (some b.bm)) rfl; obtain ⟨w6, hup6, he6⟩ := he5.put (by have := HN.out; omega) HS.out false; have HE6 := Lib.hid he6; clear he5 he6))
  go_ret
  exact ⟨rfl, n + 1, by omega, HE6.out⟩
set_option maxHeartbeats 1600000 in
theorem remove_new_bad (h : Env w0 wS b f n s no w) (hn : n + 2 < maxLen) (hs : s.name.size ≤ maxLen) (he : s.name.toList ≠ ([] : List UInt8)) (hf : f s.name = none) (hg : s.good = false) :
    Calls Tryd.prog 19 #[.pointer (some ⟨b.bc, 0, none⟩), .string s.name, actV b] w (CPost w0 wS b n s (remove f s)) := by
  have hb : (s.name.toList == ([] : List UInt8)) = false := beq_eq_false_iff_ne.mpr he
  have cc := cell_of h.cache 0 (v := .map (some b.bm)) rfl
  have cg := h.glob
  have hlk := h.map.look s.name hs
  have HN := Lib.hid hn
  have HS := Lib.hid hs
  have HE := Lib.hid h
  rw [show remove f s = (f, (false, true, false, 1)) by unfold remove; rw [if_neg he, if_neg (by rw [hf]; simp)]; simp [hg, errOf]]
  rw [hf] at hlk
  have hlk' : (Instr.lookup 46 (.map (some b.bm)) (.string s.name) true).run Tryd.prog w = .ok (.tuple #[.bool false, .bool false]) w := hlk
  clear hlk hf
  clear h he hn hs
  have q1 := neq_nil
  have q2 := neq_err
  have q3 := eql_nil
  have q4 := eql_err
  go_enter Tryd.func19, Tryd.ntmps19
  go_wp2_with (first | (go_at_call 13; (with_reducible refine (act_bad HE.out hg).mono ?_); rintro e w5 ⟨rfl, he5⟩; have HE5 := Lib.hid he5; clear he5))
  go_ret
  exact ⟨rfl, n, by omega, HE5.out⟩
set_option maxHeartbeats 1600000 in
theorem remove_there_good (h : Env w0 wS b f n s no w) (hn : n + 2 < maxLen) (hs : s.name.size ≤ maxLen) (he : s.name.toList ≠ ([] : List UInt8)) (hf : f s.name = some true) (hg : s.good = true) :
    Calls Tryd.prog 19 #[.pointer (some ⟨b.bc, 0, none⟩), .string s.name, actV b] w (CPost w0 wS b n s (remove f s)) := by
  have hb : (s.name.toList == ([] : List UInt8)) = false := beq_eq_false_iff_ne.mpr he
  have cc := cell_of h.cache 0 (v := .map (some b.bm)) rfl
  have cg := h.glob
  have hlk := h.map.look s.name hs
  have HN := Lib.hid hn
  have HS := Lib.hid hs
  have HE := Lib.hid h
  rw [show remove f s = (upd f s.name false, (false, true, false, 0)) by unfold remove; rw [if_neg he, if_neg (by rw [hf]; simp)]; simp [hg, errOf]]
  rw [hf] at hlk
  have hlk' : (Instr.lookup 46 (.map (some b.bm)) (.string s.name) true).run Tryd.prog w = .ok (.tuple #[.bool true, .bool true]) w := hlk
  clear hlk hf
  clear h he hn hs
  have q1 := neq_nil
  have q2 := neq_err
  have q3 := eql_nil
  have q4 := eql_err
  go_enter Tryd.func19, Tryd.ntmps19
  go_wp2_with (first | (go_at_call 13; (with_reducible refine (act_good HE.out hg).mono ?_); rintro e w5 ⟨rfl, he5⟩; have cc5 := cell_of he5.cache 0 (v := .map (some b.bm)) rfl; obtain ⟨w6, hup6, he6⟩ := he5.put (by have := HN.out; omega) HS.out false; have HE6 := Lib.hid he6; clear he5 he6))
  go_ret
  exact ⟨rfl, n + 1, by omega, HE6.out⟩
set_option maxHeartbeats 1600000 in
theorem remove_there_bad (h : Env w0 wS b f n s no w) (hn : n + 2 < maxLen) (hs : s.name.size ≤ maxLen) (he : s.name.toList ≠ ([] : List UInt8)) (hf : f s.name = some true) (hg : s.good = false) :
    Calls Tryd.prog 19 #[.pointer (some ⟨b.bc, 0, none⟩), .string s.name, actV b] w (CPost w0 wS b n s (remove f s)) := by
  have hb : (s.name.toList == ([] : List UInt8)) = false := beq_eq_false_iff_ne.mpr he
  have cc := cell_of h.cache 0 (v := .map (some b.bm)) rfl
  have cg := h.glob
  have hlk := h.map.look s.name hs
  have HN := Lib.hid hn
  have HS := Lib.hid hs
  have HE := Lib.hid h
  rw [show remove f s = (f, (false, true, false, 1)) by unfold remove; rw [if_neg he, if_neg (by rw [hf]; simp)]; simp [hg, errOf]]
  rw [hf] at hlk
  have hlk' : (Instr.lookup 46 (.map (some b.bm)) (.string s.name) true).run Tryd.prog w = .ok (.tuple #[.bool true, .bool true]) w := hlk
  clear hlk hf
  clear h he hn hs
  have q1 := neq_nil
  have q2 := neq_err
  have q3 := eql_nil
  have q4 := eql_err
  go_enter Tryd.func19, Tryd.ntmps19
  go_wp2_with (first | (go_at_call 13; (with_reducible refine (act_bad HE.out hg).mono ?_); rintro e w5 ⟨rfl, he5⟩; have HE5 := Lib.hid he5; clear he5))
  go_ret
  exact ⟨rfl, n, by omega, HE5.out⟩
set_option maxHeartbeats 1600000 in
theorem remove_gone (h : Env w0 wS b f n s no w) (hn : n + 2 < maxLen) (hs : s.name.size ≤ maxLen) (he : s.name.toList ≠ ([] : List UInt8)) (hf : f s.name = some false) :
    Calls Tryd.prog 19 #[.pointer (some ⟨b.bc, 0, none⟩), .string s.name, actV b] w (CPost w0 wS b n s (remove f s)) := by
  have hb : (s.name.toList == ([] : List UInt8)) = false := beq_eq_false_iff_ne.mpr he
  have cc := cell_of h.cache 0 (v := .map (some b.bm)) rfl
  have cg := h.glob
  have hlk := h.map.look s.name hs
  have HN := Lib.hid hn
  have HS := Lib.hid hs
  have HE := Lib.hid h
  rw [show remove f s = (f, (false, false, false, 3)) by unfold remove; rw [if_neg he, if_pos hf]]
  rw [hf] at hlk
  have hlk' : (Instr.lookup 46 (.map (some b.bm)) (.string s.name) true).run Tryd.prog w = .ok (.tuple #[.bool false, .bool true]) w := hlk
  clear hlk hf
  clear h he hn hs
  have q1 := neq_nil
  have q2 := neq_err
  have q3 := eql_nil
  have q4 := eql_err
  go_enter Tryd.func19, Tryd.ntmps19
  go_wp2_with (first | fail)
  go_ret
  exact ⟨rfl, n, by omega, HE.out⟩
set_option maxHeartbeats 1600000 in
theorem remove_any (h : Env w0 wS b f n s no w) (hn : n + 2 < maxLen) (hs : s.name.size ≤ maxLen) :
    Calls Tryd.prog 19 #[.pointer (some ⟨b.bc, 0, none⟩), .string s.name, actV b] w (CPost w0 wS b n s (remove f s)) := by
  by_cases he : s.name.toList = ([] : List UInt8)
  · have hc : remove f s = (f, no) := by unfold remove; rw [if_pos he]
    rw [hc]
    have hb := beq_iff_eq.mpr he
    have HE := Lib.hid h
    clear h he hc
    go_enter Tryd.func19, Tryd.ntmps19
    go_wp2
    go_ret
    exact ⟨rfl, n, by omega, HE.out⟩
  rcases hf : f s.name with _ | st
  · cases hg : s.good with
    | true => exact remove_new_good h hn hs he hf hg
    | false => exact remove_new_bad h hn hs he hf hg
  · cases st with
    | true =>
      cases hg : s.good with
      | true => exact remove_there_good h hn hs he hf hg
      | false => exact remove_there_bad h hn hs he hf hg
    | false => exact remove_gone h hn hs he hf

/-! ### marks, and what is asked -/
set_option maxHeartbeats 800000 in
theorem mark_ok (h : Env w0 wS b f n s a w) (hn : n < maxLen) (hs : s.name.size ≤ maxLen) :
    Calls Tryd.prog 15 #[.pointer (some ⟨b.bc, 0, none⟩), .string s.name] w fun e w' => e = .returned (.tuple #[]) ∧ ∃ n', n' ≤ n + 2 ∧ Env w0 wS b (mark f s true) n' s a w' := by
  by_cases he : s.name.toList = ([] : List UInt8)
  · have hb : s.name.toList.isEmpty = true := by rw [he]; rfl
    rw [show mark f s true = f by unfold mark; rw [if_pos he]]
    have HE := Lib.hid h
    clear h he
    go_enter Tryd.func15, Tryd.ntmps15
    go_wp2
    go_end0
    exact ⟨rfl, n, by omega, HE.out⟩
  · have hb : s.name.toList.isEmpty = false := by cases hx : s.name.toList with | nil => exact absurd hx he | cons c l => rfl
    rw [show mark f s true = upd f s.name true by unfold mark; rw [if_neg he]]
    have cc := cell_of h.cache 0 (v := .map (some b.bm)) rfl
    obtain ⟨w2, hup, h2⟩ := h.put hn hs true
    have HE := Lib.hid h2
    clear h he h2
    go_enter Tryd.func15, Tryd.ntmps15
    go_wp2
    go_end0
    exact ⟨rfl, n + 1, by omega, HE.out⟩
set_option maxHeartbeats 800000 in
theorem mark_gone (h : Env w0 wS b f n s a w) (hn : n < maxLen) (hs : s.name.size ≤ maxLen) :
    Calls Tryd.prog 16 #[.pointer (some ⟨b.bc, 0, none⟩), .string s.name] w fun e w' => e = .returned (.tuple #[]) ∧ ∃ n', n' ≤ n + 2 ∧ Env w0 wS b (mark f s false) n' s a w' := by
  by_cases he : s.name.toList = ([] : List UInt8)
  · have hb : s.name.toList.isEmpty = true := by rw [he]; rfl
    rw [show mark f s false = f by unfold mark; rw [if_pos he]]
    have HE := Lib.hid h
    clear h he
    go_enter Tryd.func16, Tryd.ntmps16
    go_wp2
    go_end0
    exact ⟨rfl, n, by omega, HE.out⟩
  · have hb : s.name.toList.isEmpty = false := by cases hx : s.name.toList with | nil => exact absurd hx he | cons c l => rfl
    rw [show mark f s false = upd f s.name false by unfold mark; rw [if_neg he]]
    have cc := cell_of h.cache 0 (v := .map (some b.bm)) rfl
    obtain ⟨w2, hup, h2⟩ := h.put hn hs false
    have HE := Lib.hid h2
    clear h he h2
    go_enter Tryd.func16, Tryd.ntmps16
    go_wp2
    go_end0
    exact ⟨rfl, n + 1, by omega, HE.out⟩
set_option maxHeartbeats 800000 in
theorem deleted_any (h : Env w0 wS b f n s a w) (hs : s.name.size ≤ maxLen) :
    Calls Tryd.prog 17 #[.pointer (some ⟨b.bc, 0, none⟩), .string s.name] w fun e w' => e = .returned (.bool (decide (f s.name = some false))) ∧ w = w' := by
  have cc := cell_of h.cache 0 (v := .map (some b.bm)) rfl
  have hlk := h.map.look s.name hs
  rcases hf : f s.name with _ | st
  · rw [hf] at hlk
    have hlk' : (Instr.lookup 46 (.map (some b.bm)) (.string s.name) true).run Tryd.prog w = .ok (.tuple #[.bool false, .bool false]) w := hlk
    clear h hlk hf
    go_enter Tryd.func17, Tryd.ntmps17
    go_wp2
    go_ret
    exact ⟨rfl, rfl⟩
  · rw [hf] at hlk
    cases st with
    | true =>
      have hlk' : (Instr.lookup 46 (.map (some b.bm)) (.string s.name) true).run Tryd.prog w = .ok (.tuple #[.bool true, .bool true]) w := hlk
      clear h hlk hf
      go_enter Tryd.func17, Tryd.ntmps17
      go_wp2
      go_ret
      exact ⟨rfl, rfl⟩
    | false =>
      have hlk' : (Instr.lookup 46 (.map (some b.bm)) (.string s.name) true).run Tryd.prog w = .ok (.tuple #[.bool false, .bool true]) w := hlk
      clear h hlk hf
      go_enter Tryd.func17, Tryd.ntmps17
      go_wp2
      go_ret
      exact ⟨rfl, rfl⟩

/-! ### what a new cache and new errors are -/
set_option maxHeartbeats 400000 in
theorem newCache_any (w : World) :
    Calls Tryd.prog 11 #[] w fun e w' => e = .returned (.pointer (some ⟨w.heap.size + 1, 0, none⟩)) ∧ w' = (w.alloc (.map #[] 0)).alloc (.cells #[.map (some w.heap.size)] 48) := by
  have hmm : ∀ w : World, (Instr.makeMap 46 (some (.int .i64 1))).run Tryd.prog w = .ok (.map (some w.heap.size)) (w.alloc (.map #[] 0)) := fun _ => by kernel_rfl
  go_enter Tryd.func11, Tryd.ntmps11
  go_wp2
  go_ret
  exact ⟨rfl, rfl⟩
set_option maxHeartbeats 400000 in
theorem newErr_any (a0 : ByteArray) (w : World) :
    Calls Tryd.prog 12 #[.string a0] w fun e w' => e = .returned (errAt w.heap.size) ∧ w' = w.alloc (.cells #[.string a0] 51) := by
  go_enter Tryd.func12, Tryd.ntmps12
  go_wp2
  go_ret
  exact ⟨rfl, rfl⟩
end Go.Proofs.YtbennnoddflggaaDoor.Buck
