import Derived.Test.YtlgoghonnnobfaaDoorMt
import Derived.Test.YtlgoghonnnobfaaDoorWMore
import Derived.Test.YtlgoghonnnobfaaDoorWLast
import Derived.WalkKit
import Derived.WalkSmall
import Derived.BigQuiet
import Derived.Deep.QuietTactic
import Derived.RegionTactic
import Derived.WideShapes
import Derived.Laws.Rows
namespace Go.Proofs.YtlgoghonnnobfaaDoor.Uts
open Go Go.RowKit Go.Proofs.YtlgoghonnnobfaaDoorW.PrintWords Go.Proofs.YtlgoghonnnobfaaDoorW.PrintMore Go.Proofs.YtlgoghonnnobfaaDoorW.PrintLast Go.Proofs.YtlgoghonnnobfaaDoor.Enc
set_option linter.unusedVariables false
set_option linter.unusedSimpArgs false
/-! ### the characters of a name, as spec.Units tells them -/
def ku : Kd (ByteArray × Int × Bool) := Kd.pair Kd.string (Kd.pair (Kd.int .i32) Kd.bool)
theorem ku_mk (w : World) (base : Nat) (ok : Nat → Prop) (x : ByteArray × Int × Bool) : ku.M w base ok x [.string x.1, .int .i32 x.2.1, .bool x.2.2] := ⟨[.string x.1], [.int .i32 x.2.1, .bool x.2.2], rfl, rfl, ⟨[.int .i32 x.2.1], [.bool x.2.2], rfl, rfl, rfl⟩⟩
theorem info37 : (Tryd.prog.info? 37).map (fun i => (i.zero, i.size, i.bytes)) = some (some (.agg #[.string ⟨#[]⟩, .int .i32 0, .bool false]), 3, 24) := by kernel_rfl
/-- The unit at a place. -/
def unitAt (s : ByteArray) (pos : Nat) : ByteArray × Int × Bool :=
  if (Utf8.decode s pos).1 = 65533 ∧ (Utf8.decode s pos).2 = 1 then (s.extract pos (pos + 1), -1, true) else (Utf8.encode ((Utf8.decode s pos).1 : Int), ((Utf8.decode s pos).1 : Int), false)
def unitsFrom (s : ByteArray) : Nat → Nat → List (ByteArray × Int × Bool)
  | 0, _ => []
  | f + 1, pos => if pos < s.size then unitAt s pos :: unitsFrom s f (pos + (Utf8.decode s pos).2) else []
def units (s : ByteArray) : List (ByteArray × Int × Bool) := unitsFrom s s.size 0
theorem unitsFrom_end (s : ByteArray) (f pos : Nat) (h : ¬ pos < s.size) : unitsFrom s f pos = [] := by cases f <;> simp [unitsFrom, h]
theorem cut_run (s : ByteArray) (i k : Nat) (hj : i + k ≤ s.size) (W : World) : (Instr.slice 9 (.string s) (some (.int .i64 (i : Int))) (some (.int .i64 ((i : Int) + (k : Int)))) none).run Tryd.prog W = .ok (.string (s.extract i (i + k))) W := by
  rw [run_slice_string W 9 s .i64 .i64 (i : Int) ((i : Int) + (k : Int)) Tryd.underlying9 (by omega) (by omega) (by omega)]
  have e : ((i : Int) + (k : Int)).toNat = i + k := by omega
  rw [e, Int.toNat_natCast]
set_option maxRecDepth 100000 in
set_option maxHeartbeats 2000000 in
theorem units_any (s : ByteArray) (hs : s.size ≤ 1000000) (w : World) : Calls Tryd.prog 25 #[.string s] w fun e w' => ∃ v, e = .returned v ∧ ku.R 37 w' w.heap.size (fun _ => True) v (units s) ∧ Below w.heap.size w w' := by
  go_enter Tryd.func25, Tryd.ntmps25
  go_wp2
  go_loopg [3] s.size (fun gf v3 wx => ∃ pos xs, wx.heap[w.heap.size]? = some (.stringIter s pos) ∧ Below w.heap.size w wx ∧ ku.R 37 wx (w.heap.size + 1) (fun k => w.heap.size < k) v3 xs ∧ xs ++ unitsFrom s gf pos = units s ∧ s.size ≤ pos + gf ∧ xs.length ≤ pos ∧ pos ≤ s.size)
  case atStart => exact ⟨0, [], World.iter_heap w s 0, (Below.refl _ w).alloc (Nat.le_refl _) _, Kd.R_nil _ _ _ _ _, rfl, by omega, Nat.le_refl _, by omega⟩
  case round =>
    obtain ⟨pos, xs, hit, hbw, hr, hu, hfu, hxl, hps0⟩ := hrel
    obtain ⟨A6, c6, e6⟩ := Kd.R_slice hr
    subst e6
    by_cases hps : pos < s.size
    · obtain ⟨g', rfl⟩ : ∃ g', gk = g' + 1 := ⟨gk - 1, by omega⟩
      have hnx : ∀ ty, (Instr.next (.pointer (some ⟨w.heap.size, 0, none⟩)) true ty).run Tryd.prog wr = _ := fun ty => Lib.run_next_any_at wr w.heap.size s pos ty hit hps
      have hwd := Lib.width_pos s pos
      have hfit := dec_fit s pos hps
      have herr := dec_err s pos hps
      rw [unitsFrom, if_pos hps] at hu
      unfold unitAt at hu
      obtain ⟨R, hR⟩ : ∃ R, (Utf8.decode s pos).1 = R := ⟨_, rfl⟩
      obtain ⟨K, hK⟩ : ∃ K, (Utf8.decode s pos).2 = K := ⟨_, rfl⟩
      rw [hR, hK] at hnx herr hu
      rw [hK] at hwd hfit
      have hit2 := Lib.iterAt_heap wr w.heap.size s pos (pos + K) hit
      have hbw2 := Lib.below_iterAt hbw (k := w.heap.size) (Nat.le_refl _) s (pos + K)
      have hr2 : ku.R 37 (wr.iterAt w.heap.size s (pos + K)) (w.heap.size + 1) (fun k => w.heap.size < k) (.slice A6 xs.length c6) xs := Kd.R_move hr (fun k hk => Lib.iterAt_other _ _ _ _ _ (by omega))
      obtain ⟨W, hWd⟩ : ∃ W, wr.iterAt w.heap.size s (pos + K) = W := ⟨_, rfl⟩
      rw [hWd] at hnx hit2 hbw2 hr2
      have HS : Hid (w.heap.size + 1 ≤ W.heap.size) := Lib.hid (by have := (Array.getElem?_eq_some_iff.1 hit2).1; omega)
      have HX : Hid ((xs.length + 1) * 24 ≤ 140737488355328) := Lib.hid (by omega)
      have HI := Lib.hid hit2
      have HBW := Lib.hid hbw2
      have HR := Lib.hid hr2
      clear hit2 hbw2 hr2 hWd hR hK hr hit hbw
      obtain ⟨E, hE⟩ : ∃ E, Utf8.encode (R : Int) = E := ⟨_, rfl⟩
      rw [hE] at hu
      by_cases hbad : R = 65533 ∧ K = 1
      · rw [if_pos hbad] at hu
        obtain ⟨rfl, rfl⟩ := hbad
        have h239 : ¬ ((s.get! pos).toNat = 239 ∧ (s.get! (pos + 1)).toNat = 191 ∧ (s.get! (pos + 2)).toNat = 189 ∧ pos + 3 ≤ s.size) := by
          rcases herr rfl with h | h
          · exact h.2
          · omega
        have hX1 : ∀ W, (Instr.slice 9 (.string s) (some (.int .i64 (pos : Int))) (some (.int .i64 ((pos : Int) + 1))) none).run Tryd.prog W = .ok (.string (s.extract pos (pos + 1))) W := cut_run s pos 1 (by omega)
        obtain ⟨X, hX⟩ : ∃ X, s.extract pos (pos + 1) = X := ⟨_, rfl⟩
        rw [hX] at hu hX1
        have HU := Lib.hid hu
        clear hu herr hX
        by_cases h3 : pos + 3 ≤ s.size
        · have hX3 : ∀ W, (Instr.slice 9 (.string s) (some (.int .i64 (pos : Int))) (some (.int .i64 ((pos : Int) + 3))) none).run Tryd.prog W = .ok (.string (s.extract pos (pos + 3))) W := cut_run s pos 3 (by omega)
          have heq : ((s.extract pos (pos + 3)).toList == [239, 191, 189]) = false := by
            rw [own_err s pos h3, decide_eq_false (fun h => h239 ⟨h.1, h.2.1, h.2.2, h3⟩)]
          have hne : ((s.extract pos (pos + 3)).toList != [239, 191, 189]) = true := by
            rw [bne, own_err s pos h3, decide_eq_false (fun h => h239 ⟨h.1, h.2.1, h.2.2, h3⟩)]
            rfl
          clear h239
          go_upto_region 6 with (fail)
          go_wp2_with (first | ((with_reducible refine gate_builtin (b := .append) (xs := #[.tmp 29, .tmp 36]) rfl ?_); at_builtin; refine Kd.R_append ku (w0 := W) (w.heap.size + 1) rfl (.tmp 29) (.tmp 36) 34 37 (.agg #[.string ⟨#[]⟩, .int .i32 0, .bool false]) 24 rfl Tryd.underlying34 info37 rfl (by decide) (by omega) (.slice A6 xs.length c6) xs (X, (-1 : Int), true) [.string X, .int .i32 (-1), .bool true] (fun k => w.heap.size < k) (fun _ => False) rfl rfl (ku_mk _ _ _ (X, (-1 : Int), true)) (fun _ hk => hk.elim) (fun _ hk => Nat.lt_of_lt_of_le (Nat.lt_succ_self _) (Nat.le_trans HS.out hk)) HR.out (Below.refl _ _) HS.out HX.out ?_; intro v6 w6 ho6 hb6 hg6 hn6; have HO6 := Lib.hid ho6; have HB6 := Lib.hid hb6; clear ho6 hb6 hg6 hn6))
          go_roundg g'
          case measure => omega
          case rel => exact ⟨pos + 1, xs ++ [(X, (-1 : Int), true)], (HB6.out.block _ (Nat.lt_succ_self _)).trans HI.out, HBW.out.trans (HB6.out.mono (Nat.le_succ _)), HO6.out, by rw [List.append_assoc]; exact HU.out, by omega, by rw [List.length_append]; simp only [List.length_singleton]; omega, by omega⟩
        · clear h239
          go_upto_region 6 with (fail)
          go_wp2_with (first | ((with_reducible refine gate_builtin (b := .append) (xs := #[.tmp 29, .tmp 36]) rfl ?_); at_builtin; refine Kd.R_append ku (w0 := W) (w.heap.size + 1) rfl (.tmp 29) (.tmp 36) 34 37 (.agg #[.string ⟨#[]⟩, .int .i32 0, .bool false]) 24 rfl Tryd.underlying34 info37 rfl (by decide) (by omega) (.slice A6 xs.length c6) xs (X, (-1 : Int), true) [.string X, .int .i32 (-1), .bool true] (fun k => w.heap.size < k) (fun _ => False) rfl rfl (ku_mk _ _ _ (X, (-1 : Int), true)) (fun _ hk => hk.elim) (fun _ hk => Nat.lt_of_lt_of_le (Nat.lt_succ_self _) (Nat.le_trans HS.out hk)) HR.out (Below.refl _ _) HS.out HX.out ?_; intro v6 w6 ho6 hb6 hg6 hn6; have HO6 := Lib.hid ho6; have HB6 := Lib.hid hb6; clear ho6 hb6 hg6 hn6))
          go_roundg g'
          case measure => omega
          case rel => exact ⟨pos + 1, xs ++ [(X, (-1 : Int), true)], (HB6.out.block _ (Nat.lt_succ_self _)).trans HI.out, HBW.out.trans (HB6.out.mono (Nat.le_succ _)), HO6.out, by rw [List.append_assoc]; exact HU.out, by omega, by rw [List.length_append]; simp only [List.length_singleton]; omega, by omega⟩
      · rw [if_neg hbad] at hu
        have HU := Lib.hid hu
        clear hu
        by_cases hR : R = 65533
        · subst hR
          have h3 := herr rfl
          have h3' : K = 3 ∧ (s.get! pos).toNat = 239 ∧ (s.get! (pos + 1)).toNat = 191 ∧ (s.get! (pos + 2)).toNat = 189 ∧ pos + 3 ≤ s.size := by
            rcases h3 with h | h
            · exact absurd ⟨rfl, h.1⟩ hbad
            · exact h
          obtain ⟨rfl, g1, g2, g3, g4⟩ := h3'
          have hX3 : ∀ W, (Instr.slice 9 (.string s) (some (.int .i64 (pos : Int))) (some (.int .i64 ((pos : Int) + 3))) none).run Tryd.prog W = .ok (.string (s.extract pos (pos + 3))) W := cut_run s pos 3 (by omega)
          have heq : ((s.extract pos (pos + 3)).toList == [239, 191, 189]) = true := by
            rw [own_err s pos g4, decide_eq_true ⟨g1, g2, g3⟩]
          have hne : ((s.extract pos (pos + 3)).toList != [239, 191, 189]) = false := by
            rw [bne, own_err s pos g4, decide_eq_true ⟨g1, g2, g3⟩]
            rfl
          have hE' : Utf8.encode (65533 : Int) = E := hE
          clear h3 herr hbad g1 g2 g3 hE
          go_upto_region 7 with (fail)
          go_wp2_with (first | ((with_reducible refine gate_builtin (b := .append) (xs := #[.tmp 38, .tmp 43]) rfl ?_); at_builtin; refine Kd.R_append ku (w0 := W) (w.heap.size + 1) rfl (.tmp 38) (.tmp 43) 34 37 (.agg #[.string ⟨#[]⟩, .int .i32 0, .bool false]) 24 rfl Tryd.underlying34 info37 rfl (by decide) (by omega) (.slice A6 xs.length c6) xs (E, (65533 : Int), false) [.string (E), .int .i32 (65533 : Int), .bool false] (fun k => w.heap.size < k) (fun _ => False) rfl rfl (ku_mk _ _ _ (E, (65533 : Int), false)) (fun _ hk => hk.elim) (fun _ hk => Nat.lt_of_lt_of_le (Nat.lt_succ_self _) (Nat.le_trans HS.out hk)) HR.out (Below.refl _ _) HS.out HX.out ?_; intro v6 w6 ho6 hb6 hg6 hn6; have HO6 := Lib.hid ho6; have HB6 := Lib.hid hb6; clear ho6 hb6 hg6 hn6))
          go_roundg g'
          case measure => omega
          case rel => exact ⟨pos + 3, xs ++ [(E, (65533 : Int), false)], (HB6.out.block _ (Nat.lt_succ_self _)).trans HI.out, HBW.out.trans (HB6.out.mono (Nat.le_succ _)), HO6.out, by rw [List.append_assoc]; exact HU.out, by omega, by rw [List.length_append]; simp only [List.length_singleton]; omega, by omega⟩
        · have hRi : ((R : Int) == 65533) = false := by simp; omega
          clear herr hbad
          go_upto_region 7 with (fail)
          go_wp2_with (first | ((with_reducible refine gate_builtin (b := .append) (xs := #[.tmp 38, .tmp 43]) rfl ?_); at_builtin; refine Kd.R_append ku (w0 := W) (w.heap.size + 1) rfl (.tmp 38) (.tmp 43) 34 37 (.agg #[.string ⟨#[]⟩, .int .i32 0, .bool false]) 24 rfl Tryd.underlying34 info37 rfl (by decide) (by omega) (.slice A6 xs.length c6) xs (E, (R : Int), false) [.string (E), .int .i32 (R : Int), .bool false] (fun k => w.heap.size < k) (fun _ => False) rfl rfl (ku_mk _ _ _ (E, (R : Int), false)) (fun _ hk => hk.elim) (fun _ hk => Nat.lt_of_lt_of_le (Nat.lt_succ_self _) (Nat.le_trans HS.out hk)) HR.out (Below.refl _ _) HS.out HX.out ?_; intro v6 w6 ho6 hb6 hg6 hn6; have HO6 := Lib.hid ho6; have HB6 := Lib.hid hb6; clear ho6 hb6 hg6 hn6))
          go_roundg g'
          case measure => omega
          case rel => exact ⟨pos + K, xs ++ [(E, (R : Int), false)], (HB6.out.block _ (Nat.lt_succ_self _)).trans HI.out, HBW.out.trans (HB6.out.mono (Nat.le_succ _)), HO6.out, by rw [List.append_assoc]; exact HU.out, by omega, by rw [List.length_append]; simp only [List.length_singleton]; omega, by omega⟩

    · have hnx : ∀ ty, (Instr.next (.pointer (some ⟨w.heap.size, 0, none⟩)) true ty).run Tryd.prog wr = _ := fun ty => Lib.run_next_end_at wr w.heap.size s pos ty hit hps
      rw [unitsFrom_end s gk pos hps, List.append_nil] at hu
      have HR := Lib.hid hr
      have HBW := Lib.hid hbw
      clear hr hbw
      go_wp2
      go_ret
      exact ⟨_, rfl, hu ▸ Kd.R_lower (Kd.R_mono HR.out (fun _ _ => trivial)) (Nat.le_succ _), HBW.out⟩
theorem R_iso {α β : Type} {d : Kd α} {f : β → α} {e : Nat} {w : World} {base : Nat} {ok : Nat → Prop} {v : Value} {xs : List β} (h : d.R e w base ok v (xs.map f)) : (Kd.iso d f).R e w base ok v xs := by
  obtain ⟨h0, inner, ho, hr⟩ := h
  have hm : (xs.map f).length = xs.length := by simp
  refine ⟨h0, inner, hm ▸ ho, hm ▸ hr.1, fun j p hj => ?_⟩
  exact hr.2 j (f p) (by rw [List.getElem?_map, hj]; rfl)
end Go.Proofs.YtlgoghonnnobfaaDoor.Uts
