import Derived.Test.YtlgoghonnnobfaaDoorPFnNameEdgesx1
import Derived.Test.YtlgoghonnnobfaaDoorMd
namespace Go.Proofs.YtlgoghonnnobfaaDoor.Pure
open Go Go.RowKit Go.Proofs.YtlgoghonnnobfaaDoor.PFnNameEdges Go.Proofs.YtlgoghonnnobfaaDoorW.PrintWords Go.Proofs.YtlgoghonnnobfaaDoorW.PrintLast
open Go.Proofs.YtlgoghonnnobfaaDoor.Fr Go.Proofs.YtlgoghonnnobfaaDoor.Cong
set_option linter.unusedVariables false
set_option linter.unusedSimpArgs false
theorem short_one (k : Nat) (a : ByteArray) (h : a.size ≤ 2147483647) : laws_encShort.f (k + 2) [a] = some (decide ((a.size : Int) ≤ 65536)) := by
  have w1 : wrap64 (0 + (a.size : Int)) = (a.size : Int) := by rw [Int.zero_add]; exact IntWalk.wrap64_in _ (by omega)
  have r1 : rdOf ByteArray.empty [a] 0 = a := rfl
  have w2 : wrap64 (0 + 1) = 1 := IntWalk.wrap64_in _ (by omega)
  simp only [laws_encShort.f, laws_encShort.l0, r1, w1, w2, List.length_singleton, Int.natCast_one, Int.reduceLT, if_true, Int.le_refl, if_false]
/-! ### bits that a mask does without -/
theorem andNot_is (m M : Nat) (hm : m < 18446744073709551616) (hM : M < 18446744073709551616) : Go.bits .andNot .u64 (m : Int) (M : Int) = Go.bits .and .u64 (m : Int) ((18446744073709551615 - M : Nat) : Int) := by
  unfold Go.bits
  simp only [BitVec.toNat_and, BitVec.toNat_not, BitVec.toNat_ofInt]
  congr 3
  have h1 : (((2 ^ IntKind.u64.bits : Nat) : Int)) = 18446744073709551616 := rfl
  have h2 : (2 ^ IntKind.u64.bits : Nat) = 18446744073709551616 := rfl
  rw [h1, h2]
  omega
theorem mid_of (m M : Nat) (hm : m < 18446744073709551616) (hM : M < 18446744073709551616) (h : ∀ f ∈ [512, 4, 67108864, 134217728, 268435456, 256, 128, 1024, 8, 16, 32, 64, 2, 8192, 16384, 2048, 4096, 32768, 65536, 16777216], M &&& f = f) : Mid (Go.bits .and .u64 (m : Int) (M : Int)) (m : Int) := by
  have key : ∀ f ∈ [512, 4, 67108864, 134217728, 268435456, 256, 128, 1024, 8, 16, 32, 64, 2, 8192, 16384, 2048, 4096, 32768, 65536, 16777216], hb (Go.bits .and .u64 (m : Int) (M : Int)) ((f : Nat) : Int) = hb (m : Int) ((f : Nat) : Int) := fun f hf => by
    refine hb_kept m M f hm hM ?_ (h f hf)
    simp only [List.mem_cons, List.not_mem_nil, or_false] at hf
    omega
  refine ⟨fun b hb => ?_, key 16777216 (by simp)⟩
  have h : b.f ∈ Enc.bits.map (·.f) := List.mem_map_of_mem hb
  have e : Enc.bits.map (·.f) = [512, 4, 67108864, 134217728, 268435456, 256, 128, 1024, 8, 16, 32, 64, 2, 8192, 16384, 2048, 4096, 32768, 65536] := by decide
  rw [e] at h
  simp only [List.mem_cons, List.not_mem_nil, or_false] at h
  rcases h with h | h | h | h | h | h | h | h | h | h | h | h | h | h | h | h | h | h | h
  all_goals
    rw [h]
    exact key _ (by simp)
theorem left_of (m M : Nat) (hm : m < 18446744073709551616) (hM : M < 18446744073709551616) (h : ∀ f ∈ [131072, 262144, 524288, 1048576], M &&& f = f) : Cong.Left (Go.bits .and .u64 (m : Int) (M : Int)) (m : Int) :=
  ⟨hb_kept m M 131072 hm hM (by decide) (h _ (by simp)), hb_kept m M 262144 hm hM (by decide) (h _ (by simp)), hb_kept m M 524288 hm hM (by decide) (h _ (by simp)), hb_kept m M 1048576 hm hM (by decide) (h _ (by simp))⟩
theorem right_of (m M : Nat) (hm : m < 18446744073709551616) (hM : M < 18446744073709551616) (h : ∀ f ∈ [2097152, 4194304, 8388608], M &&& f = f) : Cong.Right (Go.bits .and .u64 (m : Int) (M : Int)) (m : Int) :=
  ⟨hb_kept m M 2097152 hm hM (by decide) (h _ (by simp)), hb_kept m M 4194304 hm hM (by decide) (h _ (by simp)), hb_kept m M 8388608 hm hM (by decide) (h _ (by simp))⟩
/-! ### a text that ends with a letter -/
def LastX (s : ByteArray) : Prop := ∃ p, s.data.toList = p ++ [120]
theorem drop_data (s : ByteArray) (n : Nat) : (s.extract n s.size).data.toList = s.data.toList.drop n := by
  rw [← Lib.toList_data, Lib.extract_toList, List.take_of_length_le]
  rw [List.length_drop]
  exact Nat.le_refl _
theorem lastx_get {s : ByteArray} (h : LastX s) : 0 < s.size ∧ (s.get! (s.size - 1)).toNat = 120 := by
  obtain ⟨p, e⟩ := h
  have hl : s.size = p.length + 1 := by
    have : s.data.toList.length = s.size := rfl
    rw [← this, e]; simp
  refine ⟨by omega, ?_⟩
  rw [← Lib.getD_get!', e, hl, Nat.add_sub_cancel, Tok.getD_app, if_neg (by omega), Nat.sub_self]
  rfl
theorem go_list (s : ByteArray) (h : 0 < s.size) : Lib.decodeGo s = Lib.decodeL s.data.toList := by
  unfold Lib.decodeGo
  rw [if_neg (by omega), ← Lib.decodeL_drop, List.drop_zero]
theorem clean_x : Tok.clean [120] := by
  intro b t e
  injection e with e1 e2
  subst e1
  decide
theorem lastx_cut {s : ByteArray} (h : LastX s) (hr : 128 ≤ (Lib.decodeGo s).1) : LastX (s.extract (Lib.decodeGo s).2 s.size) := by
  have h0 := (lastx_get h).1
  obtain ⟨p, e⟩ := h
  rw [go_list s h0, e] at hr ⊢
  have hp : p ≠ [] := by
    rintro rfl
    exact absurd hr (by decide)
  rw [Tok.decodeL_cut p [120] hp clean_x] at hr ⊢
  have hle := Lib.decodeL_le p hp
  exact ⟨p.drop (Lib.decodeL p).2, by rw [drop_data, e, List.drop_append_of_le_length hle]⟩
theorem lastx_cut1 {s : ByteArray} (h : LastX s) (hr : (s.get! 0).toNat ≠ 120) : LastX (s.extract 1 s.size) := by
  obtain ⟨p, e⟩ := h
  have hp : p ≠ [] := by
    rintro rfl
    rw [Asc.get_head, e] at hr
    exact hr rfl
  exact ⟨p.drop 1, by rw [drop_data, e, List.drop_append_of_le_length (by have := List.length_pos_iff.2 hp; omega)]⟩
theorem lstep_lastx (m f : Int) (c R : Nat) (S : List UInt8) (p : ByteArray × ByteArray) (h : LastX p.2) (hc : c ≠ 120) (hR : 128 ≤ R) : LastX (Enc.lstep m f c R S p).2 := by
  unfold Enc.lstep
  split
  · split
    · exact lastx_cut1 h (by omega)
    · split
      · exact lastx_cut h (by omega)
      · exact h
  · exact h
theorem heads_lastx (m : Int) (s : ByteArray) (h : LastX s) : LastX (Enc.heads m s).2 := by
  unfold Enc.heads
  have h3 := lstep_lastx m 524288 126 65374 [239, 189, 158] _ (lstep_lastx m 262144 46 65294 [239, 188, 142] _ (lstep_lastx m 131072 32 9248 [226, 144, 160] (⟨#[]⟩, s) h (by decide) (by decide)) (by decide) (by decide)) (by decide) (by decide)
  generalize Enc.lstep m 524288 126 65374 [239, 189, 158] (Enc.lstep m 262144 46 65294 [239, 188, 142] (Enc.lstep m 131072 32 9248 [226, 144, 160] (⟨#[]⟩, s))) = q at h3
  unfold Enc.lstep4
  split
  · split
    · rename_i hc
      refine lastx_cut1 h3 ?_
      have := Enc.ctl_cases hc
      omega
    · split
      · rename_i hc
        exact lastx_cut h3 (by omega)
      · exact h3
  · exact h3
theorem dleft_high {m : Int} {r : Nat} {h : ByteArray} (e : Dec.dleft m r = some h) : 128 ≤ r := by
  rcases Nat.lt_or_ge r 128 with h' | h'
  · rw [(Asc.dleft_low m r h').1] at e; cases e
  · exact h'
theorem dleftq_high {m : Int} {r : Nat} {h : ByteArray} (e : Dec.dleftq m r = some h) : 128 ≤ r := by
  rcases Nat.lt_or_ge r 128 with h' | h'
  · rw [(Asc.dleft_low m r h').2] at e; cases e
  · exact h'
theorem cut_cut (s : ByteArray) (a b : Nat) : Dec.cut s (a + b) = Dec.cut (Dec.cut s a) b := by
  unfold Dec.cut
  apply ByteArray.ext
  apply Array.ext'
  rw [drop_data, drop_data, drop_data, List.drop_drop]
theorem dheads_lastx (m : Int) (s : ByteArray) (h : LastX s) : LastX (Dec.dheads m s).2 := by
  unfold Dec.dheads
  split
  · rename_i p e
    exact lastx_cut h (dleft_high e)
  · split
    · rename_i hq
      have hq' : (Lib.decodeGo s).1 = 8219 := by
        have h9 : ((Lib.decodeGo s).1 : Int) = 8219 := by simpa using hq
        omega
      have h1 : LastX (Dec.cut s (Lib.decodeGo s).2) := lastx_cut h (by omega)
      split
      · rename_i p e
        show LastX (Dec.cut s _)
        rw [cut_cut]
        exact lastx_cut h1 (dleftq_high e)
      · exact h
    · exact h
theorem inner_x : Asc.inner 120 := by decide
/-- A letter ahead. -/
theorem ahead_first (a : ByteArray) : 0 < ((⟨#[120]⟩ : ByteArray) ++ a).size ∧ (((⟨#[120]⟩ : ByteArray) ++ a).get! 0).toNat = 120 := by
  have e : ((⟨#[120]⟩ : ByteArray) ++ a).data.toList = 120 :: a.data.toList := by simp [ByteArray.data_append]
  refine ⟨by rw [ByteArray.size_append]; have : (⟨#[120]⟩ : ByteArray).size = 1 := rfl; omega, ?_⟩
  rw [Asc.get_head, e]
  rfl
theorem behind_last (a : ByteArray) : LastX (a ++ (⟨#[120]⟩ : ByteArray)) := ⟨a.data.toList, by simp [ByteArray.data_append]⟩
theorem FnNameEdges (a0 : Int) (a1 : ByteArray) (h0 : (Lit.int .u64 a0).wf = true) : ∃ k, laws_FnNameEdges.f k a0 a1 = some true := by
  have hb0 := bounds_u64 h0
  obtain ⟨m, rfl⟩ := Int.eq_ofNat_of_zero_le (show 0 ≤ a0 by omega)
  have hm : m < 18446744073709551616 := by omega
  refine ⟨1 + 2, ?_⟩
  unfold laws_FnNameEdges.f
  split
  · rfl
  rename_i hs
  rw [short_one 1 a1 (by omega), Option.bind_some]
  have jt : laws_FnNameEdges.j0 (1 + 2) (m : Int) a1 true = some true := by
    rw [show (1 + 2 : Nat) = 2 + 1 from rfl, laws_FnNameEdges.j0, if_pos rfl]
  by_cases hl : (a1.size : Int) ≤ 65536
  · rw [if_pos (by simpa using hl)]
    by_cases c1 : (m : Int) = 1
    · rw [if_pos c1, jt]
    rw [if_neg c1]
    by_cases c2 : Go.bits .andNot .u64 (m : Int) 1966080 = 1
    · rw [if_pos c2, jt]
    rw [if_neg c2]
    by_cases c3 : Go.bits .andNot .u64 (m : Int) 14680064 = 1
    · rw [show (Go.bits .andNot .u64 (m : Int) 14680064 == 1) = true by simpa using c3, jt]
    rw [show (Go.bits .andNot .u64 (m : Int) 14680064 == 1) = false by simpa using c3, show (1 + 2 : Nat) = 2 + 1 from rfl, laws_FnNameEdges.j0, if_neg (by decide)]
    have eL : Go.bits .andNot .u64 (m : Int) 1966080 = Go.bits .and .u64 (m : Int) ((18446744073707585535 : Nat) : Int) := andNot_is m 1966080 hm (by decide)
    have eR : Go.bits .andNot .u64 (m : Int) 14680064 = Go.bits .and .u64 (m : Int) ((18446744073694871551 : Nat) : Int) := andNot_is m 14680064 hm (by decide)
    rw [eL] at c2 ⊢
    rw [eR] at c3 ⊢
    have mL := mid_of m 18446744073707585535 hm (by decide) (by decide)
    have mR := mid_of m 18446744073694871551 hm (by decide) (by decide)
    have dL := hb_kept m 18446744073707585535 33554432 hm (by decide) (by decide) (by decide)
    have dR := hb_kept m 18446744073694871551 33554432 hm (by decide) (by decide) (by decide)
    have rL := right_of m 18446744073707585535 hm (by decide) (by decide)
    have lR := left_of m 18446744073694871551 hm (by decide) (by decide)
    obtain ⟨g0, g1⟩ := ahead_first a1
    have g1' : Asc.inner (((⟨#[120]⟩ : ByteArray) ++ a1).get! 0).toNat := by rw [g1]; exact inner_x
    have hX := behind_last a1
    generalize hML : Go.bits .and .u64 (m : Int) ((18446744073707585535 : Nat) : Int) = mL' at *
    generalize hMR : Go.bits .and .u64 (m : Int) ((18446744073694871551 : Nat) : Int) = mR' at *
    have e1 := encode_congr c2 c1 mL dL ((⟨#[120]⟩ : ByteArray) ++ a1) ((Asc.heads_plain _ _ g0 g1').trans (Asc.heads_plain _ _ g0 g1').symm) (tails_congr rL _)
    have e2 := decode_congr c2 c1 mL dL ((⟨#[120]⟩ : ByteArray) ++ a1) ((Asc.dheads_plain _ _ g0 g1'.1).trans (Asc.dheads_plain _ _ g0 g1'.1).symm) (dtails_congr rL _)
    have y1 := lastx_get (heads_lastx (m : Int) _ hX)
    have y2 := lastx_get (dheads_lastx (m : Int) _ hX)
    have y1' : Asc.inner (((Enc.heads (m : Int) (a1 ++ (⟨#[120]⟩ : ByteArray))).2).get! (((Enc.heads (m : Int) (a1 ++ (⟨#[120]⟩ : ByteArray))).2).size - 1)).toNat := by rw [y1.2]; exact inner_x
    have y2' : (((Dec.dheads (m : Int) (a1 ++ (⟨#[120]⟩ : ByteArray))).2).get! (((Dec.dheads (m : Int) (a1 ++ (⟨#[120]⟩ : ByteArray))).2).size - 1)).toNat < 128 := by rw [y2.2]; decide
    have e3 := encode_congr c3 c1 mR dR (a1 ++ (⟨#[120]⟩ : ByteArray)) (heads_congr lR _) ((Asc.tails_plain _ _ y1.1 y1').trans (Asc.tails_plain _ _ y1.1 y1').symm)
    have e4 := decode_congr c3 c1 mR dR (a1 ++ (⟨#[120]⟩ : ByteArray)) (dheads_congr lR _) ((Asc.dtails_plain _ _ y2.1 y2').trans (Asc.dtails_plain _ _ y2.1 y2').symm)
    have z : (⟨#[120]⟩ : ByteArray).size = 1 := rfl
    have z1 : ((⟨#[120]⟩ : ByteArray) ++ a1).size ≤ 400000 := by rw [ByteArray.size_append]; omega
    have z2 : (a1 ++ (⟨#[120]⟩ : ByteArray)).size ≤ 400000 := by rw [ByteArray.size_append]; omega
    have z3 : (⟨#[32]⟩ : ByteArray).size ≤ 400000 := by decide
    have z4 : (1 + a1.size ≤ 9223372036854775807) = True := by simp; omega
    have z5 : (a1.size + 1 ≤ 9223372036854775807) = True := by simp; omega
    have sp : Enc.encode 131072 (⟨#[32]⟩ : ByteArray) = ⟨#[226, 144, 160]⟩ := by kernel_rfl
    simp only [impl_NameEncode.f, impl_NameDecode.f, if_pos z1, if_pos z2, if_pos z3, z4, z5, Option.bind_some, e1, e2, e3, e4, if_true, sp]
    rw [Lib.toList_data]
    rfl
  · rw [if_neg (by simpa using hl), jt]
theorem FnNameEdges_walk (a0 : Int) (a1 : ByteArray) (w : World) (hglob : Glob w) (h0 : (Lit.int .u64 a0).wf = true) : Calls Tryd.prog 6 #[.int .u64 a0, .string a1] w fun e w' => e = .returned (.bool true) ∧ Below w.heap.size w w' := by
  obtain ⟨k, h⟩ := FnNameEdges a0 a1 h0
  exact laws_FnNameEdges.calls k a0 a1 true w hglob h
end Go.Proofs.YtlgoghonnnobfaaDoor.Pure
