import Derived.Test.YtlgoghonnnobfaaDoorPFnNameCleanx2
import Derived.Test.YtlgoghonnnobfaaDoorOuf
namespace Go.Proofs.YtlgoghonnnobfaaDoor.Pure
open Go Go.RowKit Go.Proofs.YtlgoghonnnobfaaDoor.PFnNameClean Go.Proofs.YtlgoghonnnobfaaDoorW.PrintWords Go.Proofs.YtlgoghonnnobfaaDoorW.PrintLast
open Go.Proofs.YtlgoghonnnobfaaDoor.Fr Go.Proofs.YtlgoghonnnobfaaDoor.Cong Go.Proofs.YtlgoghonnnobfaaDoor.Tok Go.Proofs.YtlgoghonnnobfaaDoor.Out
open Go.Proofs.YtlgoghonnnobfaaDoor.Enc (Bit isCtl)
set_option linter.unusedVariables false
set_option linter.unusedSimpArgs false
theorem short_one (k : Nat) (a : ByteArray) (h : a.size ≤ 2147483647) : laws_encShort.f (k + 2) [a] = some (decide ((a.size : Int) ≤ 65536)) := by
  have w1 : wrap64 (0 + (a.size : Int)) = (a.size : Int) := by rw [Int.zero_add]; exact IntWalk.wrap64_in _ (by omega)
  have r1 : rdOf ByteArray.empty [a] 0 = a := rfl
  have w2 : wrap64 (0 + 1) = 1 := IntWalk.wrap64_in _ (by omega)
  simp only [laws_encShort.f, laws_encShort.l0, r1, w1, w2, List.length_singleton, Int.natCast_one, Int.reduceLT, if_true, Int.le_refl, if_false]
/-! ### the units of a name are its characters -/
def code (t : T) : Int × Bool := if t.1 = 65533 ∧ t.2.length = 1 then (-1, true) else ((t.1 : Int), false)
theorem unitsFrom_tk (s : ByteArray) : ∀ f pos, s.size ≤ pos + f → (Uts.unitsFrom s f pos).map (fun u => (u.2.1, u.2.2)) = (tk (s.data.toList.drop pos)).map code
  | 0, pos, h => by
    rw [List.drop_eq_nil_of_le (show s.data.toList.length ≤ pos from h)]
    rfl
  | f + 1, pos, h => by
    have hl : s.data.toList.length = s.size := rfl
    rw [Uts.unitsFrom]
    split
    · rename_i hp
      have hne : s.data.toList.drop pos ≠ [] := by
        intro e
        have := congrArg List.length e
        rw [List.length_drop, hl] at this
        simp at this
        omega
      have hw := Enc.dec_pos s pos hp
      have hd := Lib.decodeL_drop s pos
      rw [List.map_cons, unitsFrom_tk s f _ (by omega), ← List.drop_drop]
      rcases tk_head _ hne with ⟨b, t, e, hdec, htk⟩ | ⟨r, t, hr, e, hdec, htk⟩
      · have hdec' : Utf8.decode s pos = (65533, 1) := by rw [← hd, hdec]
        rw [htk, hdec', List.map_cons]
        congr 1
        · unfold Uts.unitAt
          rw [hdec', if_pos ⟨rfl, rfl⟩, code, if_pos ⟨rfl, rfl⟩]
        · rw [e]; rfl
      · have hdec' : Utf8.decode s pos = (r, (enc r).length) := by rw [← hd, hdec]
        have hn : ¬ (r = 65533 ∧ (enc r).length = 1) := ch_not_bad r
        rw [htk, hdec', List.map_cons]
        congr 1
        · unfold Uts.unitAt
          rw [hdec', if_neg hn, code, if_neg (ch_not_bad r)]
          rfl
        · simp only
          rw [e, List.drop_left]
    · rename_i hp
      rw [List.drop_eq_nil_of_le (show s.data.toList.length ≤ pos by omega)]
      rfl
theorem units_tk (s : ByteArray) : (Uts.units s).map (fun u => (u.2.1, u.2.2)) = (tk s.data.toList).map code := by
  have := unitsFrom_tk s s.size 0 (by omega)
  rw [List.drop_zero] at this
  exact this
/-! ### the bits of a character -/
def bitN (x : Nat) : Nat := Enc.bits.foldl (fun acc b => if (x : Int) ∈ b.cs then acc ||| b.f.toNat else acc) 0
theorem bit_all : ∀ x : Fin 128, x.val ≠ 0 → spec_bit.f 5 (x.val : Int) = some (bitN x.val : Int) ∧ bitN x.val < 18446744073709551616 := by decide +kernel
theorem f_all : ∀ b ∈ Enc.bits, 0 ≤ b.f ∧ b.f < 18446744073709551616 := by decide +kernel
theorem more (a0 : Int) (v : Int) (h : spec_bit.f 5 a0 = some v) : ∀ n, spec_bit.f (5 + n) a0 = some v
  | 0 => h
  | n + 1 => spec_bit.mono a0 (5 + n) v (more a0 v h n)
theorem fold_zero (m x : Nat) : ∀ (l : List Bit) (acc : Nat), m &&& acc = 0 → (∀ b ∈ l, (x : Int) ∈ b.cs → m &&& b.f.toNat = 0) → m &&& l.foldl (fun acc b => if (x : Int) ∈ b.cs then acc ||| b.f.toNat else acc) acc = 0
  | [], acc, h, _ => h
  | b :: t, acc, h, hl => by
    rw [List.foldl_cons]
    refine fold_zero m x t _ ?_ fun c hc => hl c (by simp [hc])
    split
    · rename_i hx
      rw [Nat.and_or_distrib_left, h, hl b (by simp) hx]
      rfl
    · exact h
theorem bit_high (k : Nat) (x : Nat) (h : 128 ≤ x) : spec_bit.f (k + 5) (x : Int) = some 0 := by
  have e : ∀ c : Int, c < 128 → ¬ ((x : Int) = c) := fun c hc => by omega
  have e' : ∀ c : Int, c < 128 → ((x : Int) == c) = false := fun c hc => by simpa using e c hc
  simp only [spec_bit.f, spec_bit.j0, spec_bit.j1, spec_bit.j2, if_neg (e 47 (by decide)), if_neg (e 60 (by decide)), e' 62 (by decide), if_neg (e 34 (by decide)), if_neg (e 39 (by decide)), if_neg (e 96 (by decide)), if_neg (e 36 (by decide)), if_neg (e 58 (by decide)), if_neg (e 63 (by decide)), if_neg (e 42 (by decide)), if_neg (e 124 (by decide)), if_neg (e 35 (by decide)), if_neg (e 37 (by decide)), if_neg (e 92 (by decide)), if_neg (e 91 (by decide)), e' 93 (by decide), if_neg (e 59 (by decide)), if_neg (e 33 (by decide)), if_neg (e 127 (by decide)), if_neg (e 13 (by decide)), e' 10 (by decide), Bool.false_eq_true, if_false]
  rw [if_pos (by omega), if_neg (by omega)]
theorem takes_fine (m : Nat) (hm : m < 18446744073709551616) (t : T) (h : Fine (m : Int) t) (k : Nat) : spec_Takes.f (k + 5) (m : Int) (code t).1 = some false ∧ ((code t).2 = true → Go.bits .and .u64 (m : Int) 16777216 = 0) := by
  rcases h with ⟨x, hx, rfl, hf⟩ | ⟨b, rfl, hi⟩
  · have e : code (ch x) = ((x : Int), false) := by rw [code, if_neg (ch_not_bad x)]; rfl
    rw [e]
    refine ⟨?_, fun h => by cases h⟩
    unfold spec_Takes.f
    rcases Nat.lt_or_ge x 128 with h128 | h128
    · have hnt : ¬ taken (m : Int) x := by
        rcases hf with h | h
        · omega
        · exact h
      have h0 : x ≠ 0 := fun e => hnt (.inl e)
      obtain ⟨b1, b2⟩ := bit_all ⟨x, h128⟩ h0
      rw [if_neg (by omega), if_pos (by omega), show k + 5 = 5 + k by omega, more _ _ b1 k, Option.bind_some, Cong.bits_nat m (bitN x) hm b2]
      have hz : m &&& bitN x = 0 := fold_zero m x Enc.bits 0 (Nat.and_zero m) fun b hb hc => by
        obtain ⟨f0, f1⟩ := f_all b hb
        have hnb : Fr.hb (m : Int) b.f = false := by
          cases hh : Fr.hb (m : Int) b.f with
          | false => rfl
          | true => exact absurd (.inr ⟨b, hb, hh, hc⟩) hnt
        obtain ⟨q, hq⟩ := Int.eq_ofNat_of_zero_le f0
        rw [hq, hb_nat m q hm (by omega)] at hnb
        rw [hq]
        simpa using hnb
      rw [hz]
      rfl
    · rw [if_neg (by omega), if_pos (by omega), bit_high k x h128, Option.bind_some]
      have : Go.bits .and .u64 (m : Int) ((0 : Nat) : Int) = ((m &&& 0 : Nat) : Int) := Cong.bits_nat m 0 hm (by decide)
      rw [show Go.bits .and .u64 (m : Int) 0 = 0 by rw [Nat.and_zero] at this; exact this]
      rfl
  · have e : code (badT b) = (-1, true) := by rw [code, if_pos ⟨rfl, rfl⟩]
    rw [e]
    refine ⟨?_, fun _ => ?_⟩
    · unfold spec_Takes.f
      rw [if_neg (by decide), if_neg (by decide)]
    · unfold Fr.hb at hi
      simpa using hi
theorem band_hb (m f : Int) : (Go.bits .and .u64 m f != 0) = hb m f := rfl
theorem left_code (m : Int) (t : T) (h : takenL m t.1 = false) : spec_TakesLeft.f m (code t).1 = some false := by
  unfold code
  split
  · simp [spec_TakesLeft.f]
  · generalize t.1 = x at h
    simp only [spec_TakesLeft.f, band_hb]
    have e : ∀ c : Nat, ((x : Int) = (c : Int)) ↔ x = c := fun c => by omega
    simp only [takenL, Bool.or_eq_false_iff, Bool.and_eq_false_iff, isCtl] at h
    obtain ⟨⟨⟨h1, h2⟩, h3⟩, h4⟩ := h
    by_cases c1 : x = 32
    · subst c1; simpa using h1
    by_cases c2 : x = 46
    · subst c2; simpa using h2
    by_cases c3 : x = 126
    · subst c3; simpa using h3
    by_cases c4 : x = 13
    · subst c4; simpa using h4
    by_cases c5 : x = 10
    · subst c5; simpa using h4
    by_cases c6 : x = 9
    · subst c6; simpa using h4
    by_cases c7 : x = 11
    · subst c7; simpa using h4
    rw [if_neg (by omega), if_neg (by omega), if_neg (by omega), if_neg (by omega), if_neg (by omega), if_neg (by omega), if_neg (by omega)]
theorem right_code (m : Int) (t : T) (h : takenR m t.1 = false) : spec_TakesRight.f m (code t).1 = some false := by
  unfold code
  split
  · simp [spec_TakesRight.f]
  · generalize t.1 = x at h
    simp only [spec_TakesRight.f, band_hb]
    simp only [takenR, Bool.or_eq_false_iff, Bool.and_eq_false_iff, isCtl] at h
    obtain ⟨⟨h1, h2⟩, h4⟩ := h
    by_cases c1 : x = 32
    · subst c1; simpa using h1
    by_cases c2 : x = 46
    · subst c2; simpa using h2
    by_cases c4 : x = 13
    · subst c4; simpa using h4
    by_cases c5 : x = 10
    · subst c5; simpa using h4
    by_cases c6 : x = 9
    · subst c6; simpa using h4
    by_cases c7 : x = 11
    · subst c7; simpa using h4
    rw [if_neg (by omega), if_neg (by omega), if_neg (by omega), if_neg (by omega), if_neg (by omega), if_neg (by omega)]
/-- The loop over the units. -/
theorem loop (m : Int) (L : List S37) (hL : L.length ≤ 2147483647) (h0 : 0 < L.length) (hall : ∀ i : Nat, i < L.length → (∀ k, spec_Takes.f (k + 5) m (rd_T37 L (i : Int)).f1 = some false) ∧ ((rd_T37 L (i : Int)).f2 = true → Go.bits .and .u64 m 16777216 = 0))
    (hl : spec_TakesLeft.f m (rd_T37 L 0).f1 = some false) (hr : spec_TakesRight.f m (rd_T37 L ((L.length - 1 : Nat) : Int)).f1 = some false) :
    ∀ (n i : Nat), L.length - i = n → i ≤ L.length → ∀ k, n + 6 ≤ k → laws_encKept.l0 k m L L (L.length : Int) (i : Int) = some true
  | 0, i, hn, hi, k, hk => by
    obtain ⟨k, rfl⟩ : ∃ k', k = k' + 1 := ⟨k - 1, by omega⟩
    have hw : wrap64 ((L.length : Int) - 1) = ((L.length - 1 : Nat) : Int) := by rw [IntWalk.wrap64_in _ (by omega)]; omega
    rw [laws_encKept.l0, if_neg (by omega), if_pos (by omega), hl, Option.bind_some, if_neg (by decide), hw, if_pos (by omega), if_pos (by omega), hr, Option.bind_some]
    rfl
  | n + 1, i, hn, hi, k, hk => by
    obtain ⟨k, rfl⟩ : ∃ k', k = k' + 5 + 1 := ⟨k - 6, by omega⟩
    have hw : wrap64 ((i : Int) + 1) = ((i + 1 : Nat) : Int) := by rw [IntWalk.wrap64_in _ (by omega)]; simp
    obtain ⟨g1, g2⟩ := hall i (by omega)
    have ih := loop m L hL h0 hall hl hr n (i + 1) (by omega) (by omega) (k + 5) (by omega)
    rw [laws_encKept.l0, if_pos (by omega), if_pos (by omega), if_pos (by omega), g1 k, Option.bind_some, if_neg (by decide), hw]
    by_cases hb : (rd_T37 L (i : Int)).f2 = true
    · rw [if_pos hb, if_pos (g2 hb)]; exact ih
    · rw [if_neg hb]; exact ih
theorem kept_true (m : Nat) (hm : m < 18446744073709551616) (t : ByteArray) (hs : t.size ≤ 1000000) (h : t.data.toList = [] ∨ Kept (m : Int) t) : ∃ K, ∀ k, K ≤ k → laws_encKept.f k (m : Int) t = some true := by
  by_cases hne : t.data.toList = []
  · exact ⟨0, fun k _ => by unfold laws_encKept.f; rw [if_pos (by rw [Lib.toList_data]; exact hne)]⟩
  have hK : Kept (m : Int) t := by
    rcases h with h | h
    · exact absurd h hne
    · exact h
  obtain ⟨L, hLd⟩ : ∃ L, (Uts.units t).map (fun x => (⟨x.1, x.2.1, x.2.2⟩ : S37)) = L := ⟨_, rfl⟩
  have hLc : L.map (fun u => (u.f1, u.f2)) = (tk t.data.toList).map code := by
    rw [← hLd, List.map_map, ← units_tk]
    rfl
  have hLlen : L.length = (tk t.data.toList).length := by
    have := congrArg List.length hLc
    simpa using this
  have hpos : 0 < L.length := by
    rw [hLlen, tk_step _ hne]; simp
  have hcnt : L.length ≤ 1000000 := by
    have key : ∀ f pos, (Uts.unitsFrom t f pos).length ≤ f := by
      intro f
      induction f with
      | zero => intro pos; simp [Uts.unitsFrom]
      | succ f ih =>
        intro pos
        rw [Uts.unitsFrom]
        split
        · have := ih (pos + (Utf8.decode t pos).2); simp only [List.length_cons]; omega
        · simp
    rw [← hLd, List.length_map]
    exact Nat.le_trans (key t.size 0) hs
  have at_ : ∀ i : Nat, i < L.length → ∃ u, (tk t.data.toList)[i]? = some u ∧ (rd_T37 L (i : Int)).f1 = (code u).1 ∧ (rd_T37 L (i : Int)).f2 = (code u).2 := fun i hi => by
    have h1 := congrArg (fun l => l[i]?) hLc
    simp only [List.getElem?_map] at h1
    have hu : i < (tk t.data.toList).length := by omega
    rw [List.getElem?_eq_getElem hi, List.getElem?_eq_getElem hu] at h1
    simp only [Option.map_some, Option.some.injEq] at h1
    have hrd : rd_T37 L (i : Int) = L[i]'hi := by
      unfold rd_T37
      rw [Int.toNat_natCast, List.getD_eq_getElem?_getD, List.getElem?_eq_getElem hi]
      rfl
    refine ⟨(tk t.data.toList)[i]'hu, List.getElem?_eq_getElem hu, ?_, ?_⟩
    · rw [hrd, ← h1]
    · rw [hrd, ← h1]
  have hloop := loop (m : Int) L (by omega) hpos (fun i hi => by
      obtain ⟨u, e1, e2, e3⟩ := at_ i hi
      have hf := hK.fine u (List.mem_of_getElem? e1)
      rw [e2, e3]
      exact ⟨fun k => (takes_fine m hm u hf k).1, (takes_fine m hm u hf 0).2⟩)
    (by
      obtain ⟨u, e1, e2, _⟩ := at_ 0 hpos
      rw [show (0 : Int) = ((0 : Nat) : Int) from rfl, e2]
      exact left_code _ u (hK.first u (by rw [List.head?_eq_getElem?]; exact e1)))
    (by
      obtain ⟨u, e1, e2, _⟩ := at_ (L.length - 1) (by omega)
      rw [e2]
      exact right_code _ u (hK.last u (by rw [List.getLast?_eq_getElem?, ← hLlen]; exact e1)))
    L.length 0 rfl (Nat.zero_le _)
  refine ⟨L.length + 7, fun k hk => ?_⟩
  obtain ⟨k, rfl⟩ : ∃ k', k = k' + 1 := ⟨k - 1, by omega⟩
  have hj : laws_encKept.j0 (k + 1) (m : Int) t false = some true := by
    rw [laws_encKept.j0, if_neg (by decide), spec_Units.f, if_pos hs, Option.bind_some, hLd]
    exact hloop k (by omega)
  unfold laws_encKept.f
  rw [if_neg (by rw [Lib.toList_data]; exact hne)]
  by_cases hd : Go.bits .and .u64 (m : Int) 33554432 = 0
  · rw [if_pos hd, hj]
  · have hd' : hb (m : Int) 33554432 = true := by unfold Fr.hb; simpa using hd
    obtain ⟨n1, n2⟩ := hK.dot hd'
    rw [if_neg hd, if_neg (by rw [Lib.toList_data]; exact n1), show (t.toList == ([46, 46] : List UInt8)) = false by rw [Lib.toList_data]; simpa using n2, hj]
theorem FnNameClean (a0 : Int) (a1 : ByteArray) (h0 : (Lit.int .u64 a0).wf = true) : ∃ k, laws_FnNameClean.f k a0 a1 = some true := by
  have hb0 := bounds_u64 h0
  obtain ⟨m, rfl⟩ := Int.eq_ofNat_of_zero_le (show 0 ≤ a0 by omega)
  have hm : m < 18446744073709551616 := by omega
  have jt : ∀ k, laws_FnNameClean.j0 (k + 1) (m : Int) a1 true = some true := fun k => by rw [laws_FnNameClean.j0, if_pos rfl]
  by_cases hs : (a1.size : Int) > 2147483647
  · exact ⟨0, by unfold laws_FnNameClean.f; rw [if_pos hs]⟩
  by_cases hl : (a1.size : Int) ≤ 65536 ∧ (m : Int) ≠ 1
  · obtain ⟨k1, k2⟩ := kept (m : Int) a1 hl.2 (by omega)
    obtain ⟨K, hK⟩ := kept_true m hm (Enc.encode (m : Int) a1) k1 k2
    refine ⟨K + 1 + 2, ?_⟩
    unfold laws_FnNameClean.f
    have c1 : a1.size ≤ 400000 := by omega
    have c2 : (⟨#[127]⟩ : ByteArray).size ≤ 400000 := by decide
    have sp : Enc.encode 32768 (⟨#[127]⟩ : ByteArray) = ⟨#[226, 144, 161]⟩ := by kernel_rfl
    rw [if_neg hs, short_one (K + 1) a1 (by omega), Option.bind_some, if_pos (by simpa using hl.1), show ((m : Int) == 1) = false by simpa using hl.2, show K + 1 + 2 = (K + 2) + 1 by omega, laws_FnNameClean.j0, if_neg (by decide)]
    simp only [impl_NameEncode.f, if_pos c1, if_pos c2, Option.bind_some, hK (K + 2) (by omega), if_true, sp]
    rw [Lib.toList_data]
    rfl
  · refine ⟨0 + 2, ?_⟩
    unfold laws_FnNameClean.f
    rw [if_neg hs, short_one 0 a1 (by omega), Option.bind_some]
    by_cases h1 : (a1.size : Int) ≤ 65536
    · have e1 : (m : Int) = 1 := by
        by_cases h : (m : Int) = 1
        · exact h
        · exact absurd ⟨h1, h⟩ hl
      rw [if_pos (by simpa using h1), show ((m : Int) == 1) = true by simpa using e1]
      exact jt 1
    · rw [if_neg (by simpa using h1)]
      exact jt 1
theorem FnNameClean_walk (a0 : Int) (a1 : ByteArray) (w : World) (hglob : GlobE w) (h0 : (Lit.int .u64 a0).wf = true) : Calls Tryd.prog 3 #[.int .u64 a0, .string a1] w fun e w' => e = .returned (.bool true) ∧ Below w.heap.size w w' := by
  obtain ⟨k, h⟩ := FnNameClean a0 a1 h0
  exact laws_FnNameClean.calls k a0 a1 true w hglob h
end Go.Proofs.YtlgoghonnnobfaaDoor.Pure
