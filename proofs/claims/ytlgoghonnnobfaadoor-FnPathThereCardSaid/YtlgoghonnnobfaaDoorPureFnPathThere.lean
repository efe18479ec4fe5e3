import Derived.Test.YtlgoghonnnobfaaDoorPFnPathTherex2
import Derived.Test.YtlgoghonnnobfaaDoorWay
namespace Go.Proofs.YtlgoghonnnobfaaDoor.Pure
open Go Go.RowKit Go.Proofs.YtlgoghonnnobfaaDoor.PFnPathThere Go.Proofs.YtlgoghonnnobfaaDoorW.PrintWords Go.Proofs.YtlgoghonnnobfaaDoorW.PrintLast
open Go.Proofs.YtlgoghonnnobfaaDoor.Fr Go.Proofs.YtlgoghonnnobfaaDoor.Tok Go.Proofs.YtlgoghonnnobfaaDoor.Out Go.Proofs.YtlgoghonnnobfaaDoor.Sdp Go.Proofs.YtlgoghonnnobfaaDoor.Kin Go.Proofs.YtlgoghonnnobfaaDoor.Rtp Go.Proofs.YtlgoghonnnobfaaDoor.Way
open Go.Proofs.YtlgoghonnnobfaaDoor.Asc (encode_stays decode_stays stays_x)
set_option linter.unusedVariables false
set_option linter.unusedSimpArgs false
/-- From some number of steps on. -/
def Ev {α : Type} (g : Nat → Option α) (r : α) : Prop := ∃ K, ∀ k, K ≤ k → g k = some r
theorem Ev.step {α : Type} {g h : Nat → Option α} {r : α} (e : ∀ k, g (k + 1) = h k) (H : Ev h r) : Ev g r := by
  obtain ⟨K, hK⟩ := H
  refine ⟨K + 1, fun k hk => ?_⟩
  obtain ⟨k, rfl⟩ : ∃ k', k = k' + 1 := ⟨k - 1, by omega⟩
  rw [e]; exact hK k (by omega)
theorem Ev.now {α : Type} {g : Nat → Option α} {r : α} (e : ∀ k, g (k + 1) = some r) : Ev g r := ⟨1, fun k hk => by
  obtain ⟨k, rfl⟩ : ∃ k', k = k' + 1 := ⟨k - 1, by omega⟩
  exact e k⟩
theorem bt_get (s : ByteArray) (j : Nat) (h : j < s.size) : bt s (j : Int) = ((s.get! j).toNat : Int) := by
  unfold bt
  rw [dif_pos (by simpa using h)]
  congr 1
  rw [← Lib.getD_get!', List.getD_eq_getElem?_getD, List.getElem?_eq_getElem (show j < s.data.toList.length from h)]
  rfl
theorem at_get (s : ByteArray) (j : Nat) (h : j < s.size) : s.data.toList[j]? = some (s.get! j) := by
  rw [← Lib.getD_get!', List.getD_eq_getElem?_getD, List.getElem?_eq_getElem (show j < s.data.toList.length from h)]
  rfl
theorem up (i : Nat) (h : i ≤ 2147483647) : wrap64 ((i : Int) + 1) = ((i + 1 : Nat) : Int) := by rw [IntWalk.wrap64_in _ (by omega)]; simp
/-! ### short enough -/
theorem fits (l : List ByteArray) : ∀ (n i : Nat), l.length - i = n → i ≤ l.length → l.length ≤ 2147483647 → ∃ b, Ev (fun k => laws_zzFits3.l0 k l (l.length : Int) (i : Int)) b ∧ (b = true → ∀ j, i ≤ j → j < l.length → (rdOf ByteArray.empty l (j : Int)).size ≤ 2147483647)
  | 0, i, hn, hi, hl => ⟨true, Ev.now fun k => by rw [laws_zzFits3.l0, if_neg (by omega)], fun _ j h1 h2 => by omega⟩
  | n + 1, i, hn, hi, hl => by
    by_cases hs : ((rdOf ByteArray.empty l (i : Int)).size : Int) > 2147483647
    · exact ⟨false, Ev.now fun k => by rw [laws_zzFits3.l0, if_pos (by omega), if_pos (by omega), if_pos (by omega), if_pos hs], fun h => by cases h⟩
    · obtain ⟨b, h1, h2⟩ := fits l n (i + 1) (by omega) (by omega) hl
      refine ⟨b, Ev.step (fun k => ?_) h1, fun hb j h3 h4 => ?_⟩
      · rw [laws_zzFits3.l0, if_pos (by omega), if_pos (by omega), if_pos (by omega), if_neg hs, up i (by omega)]
      · by_cases hj : j = i
        · subst hj; omega
        · exact h2 hb j (by omega) h4
theorem rd_get (l : List ByteArray) (j : Nat) (h : j < l.length) : rdOf ByteArray.empty l (j : Int) = l[j] := by
  unfold rdOf
  rw [Int.toNat_natCast, List.getD_eq_getElem?_getD, List.getElem?_eq_getElem h]
  rfl
theorem sumz_take (l : List ByteArray) (i : Nat) (h : i < l.length) : sumz (l.take (i + 1)) = sumz (l.take i) + (l[i]).size := by
  unfold sumz
  rw [List.take_add_one, List.getElem?_eq_getElem h, Option.toList_some, List.map_append, List.sum_append]
  rfl
theorem sumz_le (l : List ByteArray) (h : ∀ j (hj : j < l.length), (l[j]).size ≤ 2147483647) : ∀ i, i ≤ l.length → sumz (l.take i) ≤ i * 2147483647
  | 0, _ => by simp [sumz]
  | i + 1, hi => by
    have := sumz_le l h i (by omega)
    have h2 := h i (by omega)
    rw [sumz_take l i (by omega)]
    omega
theorem short_all (l : List ByteArray) (hl : l.length ≤ 2147483647) (hs : ∀ j (hj : j < l.length), (l[j]).size ≤ 2147483647) : ∀ (n i : Nat), l.length - i = n → i ≤ l.length → Ev (fun k => laws_encShort.l0 k (sumz (l.take i) : Int) l (l.length : Int) (i : Int)) (decide (sumz l ≤ 65536))
  | 0, i, hn, hi => Ev.now fun k => by
    rw [laws_encShort.l0, if_neg (by omega), List.take_of_length_le (by omega)]
    congr 1
    simp only [decide_eq_decide]
    omega
  | n + 1, i, hn, hi => by
    refine Ev.step (fun k => ?_) (short_all l hl hs n (i + 1) (by omega) (by omega))
    have hb := sumz_le l hs i (by omega)
    have hb2 := hs i (by omega)
    have hm : i * 2147483647 ≤ 2147483647 * 2147483647 := Nat.mul_le_mul_right _ (by omega)
    rw [laws_encShort.l0, if_pos (by omega), if_pos (by omega), if_pos (by omega), rd_get l i (by omega), up i (by omega), sumz_take l i (by omega), IntWalk.wrap64_in _ (by omega), ← Int.natCast_add]
/-! ### open names -/
def code (t : T) : Int × Bool := if t.1 = 65533 ∧ t.2.length = 1 then (-1, true) else ((t.1 : Int), false)
theorem unitsFrom_tk (s : ByteArray) : ∀ f pos, s.size ≤ pos + f → (Uts.unitsFrom s f pos).map (fun u => (u.2.1, u.2.2)) = (tk (s.data.toList.drop pos)).map code
  | 0, pos, h => by
    rw [List.drop_eq_nil_of_le (show s.data.toList.length ≤ pos from h)]
    rfl
  | f + 1, pos, h => by
    have hl : s.data.toList.length = s.size := rfl
    rw [Uts.unitsFrom]
    split
    · rename_i hp
      have hne : s.data.toList.drop pos ≠ [] := by
        intro e
        have := congrArg List.length e
        rw [List.length_drop, hl] at this
        simp at this
        omega
      have hw := Enc.dec_pos s pos hp
      have hd := Lib.decodeL_drop s pos
      rw [List.map_cons, unitsFrom_tk s f _ (by omega), ← List.drop_drop]
      rcases tk_head _ hne with ⟨b, t, e, hdec, htk⟩ | ⟨r, t, hr, e, hdec, htk⟩
      · have hdec' : Utf8.decode s pos = (65533, 1) := by rw [← hd, hdec]
        rw [htk, hdec', List.map_cons]
        congr 1
        · unfold Uts.unitAt
          rw [hdec', if_pos ⟨rfl, rfl⟩, code, if_pos ⟨rfl, rfl⟩]
        · rw [e]; rfl
      · have hdec' : Utf8.decode s pos = (r, (enc r).length) := by rw [← hd, hdec]
        have hn : ¬ (r = 65533 ∧ (enc r).length = 1) := ch_not_bad r
        rw [htk, hdec', List.map_cons]
        congr 1
        · unfold Uts.unitAt
          rw [hdec', if_neg hn, code, if_neg (ch_not_bad r)]
          rfl
        · simp only
          rw [e, List.drop_left]
    · rename_i hp
      rw [List.drop_eq_nil_of_le (show s.data.toList.length ≤ pos by omega)]
      rfl
theorem units_tk (s : ByteArray) : (Uts.units s).map (fun u => (u.2.1, u.2.2)) = (tk s.data.toList).map code := by
  have := unitsFrom_tk s s.size 0 (by omega)
  rw [List.drop_zero] at this
  exact this
theorem right_total (m c : Int) : ∃ b, spec_TakesRight.f m c = some b := by
  unfold spec_TakesRight.f
  repeat' split
  all_goals exact ⟨_, rfl⟩
theorem band_hb (m f : Int) : (Go.bits .and .u64 m f != 0) = hb m f := rfl
theorem right_code (m : Int) (t : T) (h : takenR m t.1 = true) : spec_TakesRight.f m (code t).1 = some true := by
  have c : (code t).1 = (t.1 : Int) := by
    unfold code
    split
    · rename_i g
      rw [g.1] at h
      simp [takenR, Enc.isCtl] at h
    · rfl
  rw [c]
  generalize t.1 = x at h
  simp only [spec_TakesRight.f, band_hb]
  simp only [takenR, Enc.isCtl] at h
  by_cases c1 : x = 32
  · subst c1; simpa using h
  by_cases c2 : x = 46
  · subst c2; simpa using h
  by_cases c4 : x = 13
  · subst c4; simpa using h
  by_cases c5 : x = 10
  · subst c5; simpa using h
  by_cases c6 : x = 9
  · subst c6; simpa using h
  by_cases c7 : x = 11
  · subst c7; simpa using h
  exfalso
  simp at h
  omega
theorem open_all (k : Nat) (m : Int) (s : ByteArray) (hs : s.size ≤ 1000000) : ∃ b, spec_NameOpen.f (k + 1) m s = some b ∧ (b = false → ¬ dotOpen m s.data.toList ∧ ¬ quoteOpen m (tk s.data.toList)) := by
  have jt : spec_NameOpen.j0 (k + 1) m s true = some true := by rw [spec_NameOpen.j0, if_pos rfl]
  have jf : ∃ b, spec_NameOpen.j0 (k + 1) m s false = some b ∧ (b = false → ¬ quoteOpen m (tk s.data.toList)) := by
    rw [spec_NameOpen.j0, if_neg (by decide), spec_Units.f, if_pos hs, Option.bind_some]
    have hcnt : (Uts.units s).length ≤ 1000000 := by
      have key : ∀ f pos, (Uts.unitsFrom s f pos).length ≤ f := by
        intro f
        induction f with
        | zero => intro pos; simp [Uts.unitsFrom]
        | succ f ih =>
          intro pos
          rw [Uts.unitsFrom]
          split
          · have := ih (pos + (Utf8.decode s pos).2); simp only [List.length_cons]; omega
          · simp
      exact Nat.le_trans (key s.size 0) hs
    generalize hL : (Uts.units s).map (fun x => (⟨x.1, x.2.1, x.2.2⟩ : S37)) = L
    have hlen : L.length ≤ 1000000 := by rw [← hL, List.length_map]; exact hcnt
    have hLc : L.map (fun u => (u.f1, u.f2)) = (tk s.data.toList).map code := by
      rw [← hL, List.map_map, ← units_tk]
      rfl
    have hLl : L.length = (tk s.data.toList).length := by
      have := congrArg List.length hLc
      simpa using this
    have at_ : ∀ (i : Nat) (hi : i < L.length) (u : T), (tk s.data.toList)[i]? = some u → (rd_T37 L (i : Int)).f1 = (code u).1 := fun i hi u hu => by
      have h1 := congrArg (fun l => l[i]?) hLc
      simp only [List.getElem?_map] at h1
      rw [List.getElem?_eq_getElem hi, hu] at h1
      simp only [Option.map_some, Option.some.injEq] at h1
      have hrd : rd_T37 L (i : Int) = L[i]'hi := by
        unfold rd_T37
        rw [Int.toNat_natCast, List.getD_eq_getElem?_getD, List.getElem?_eq_getElem hi]
        rfl
      rw [hrd, ← h1]
    by_cases h1 : (L.length : Int) > 1
    · have w2 : wrap64 ((L.length : Int) - 2) = ((L.length - 2 : Nat) : Int) := by rw [IntWalk.wrap64_in _ (by omega)]; omega
      have w1 : wrap64 ((L.length : Int) - 1) = ((L.length - 1 : Nat) : Int) := by rw [IntWalk.wrap64_in _ (by omega)]; omega
      rw [if_pos h1, w2, w1, if_pos (by omega), if_pos (by omega)]
      have hopen : quoteOpen m (tk s.data.toList) → (rd_T37 L ((L.length - 2 : Nat) : Int)).f1 = 8219 ∧ spec_TakesRight.f m ((rd_T37 L ((L.length - 1 : Nat) : Int)).f1) = some true := by
        rintro ⟨M, q, t, e, hq, ht⟩
        have hle : L.length = M.length + 2 := by rw [hLl, e]; simp
        have g2 := at_ (L.length - 2) (by omega) q (by rw [e, hle]; simp)
        have g1 := at_ (L.length - 1) (by omega) t (by rw [e, hle]; simp)
        refine ⟨?_, by rw [g1]; exact right_code m t ht⟩
        rw [g2, code, if_neg (by omega), hq]
        rfl
      split
      · rw [if_pos (by omega), if_pos (by omega)]
        obtain ⟨b, hb⟩ := right_total m ((rd_T37 L ((L.length - 1 : Nat) : Int)).f1)
        rw [hb]
        refine ⟨b, rfl, fun h ho => ?_⟩
        rw [(hopen ho).2, h] at hb
        cases hb
      · rename_i h2
        exact ⟨_, rfl, fun _ ho => h2 (hopen ho).1⟩
    · rw [if_neg h1]
      refine ⟨_, rfl, fun _ ho => ?_⟩
      obtain ⟨M, q, t, e, _⟩ := ho
      rw [e] at hLl
      simp at hLl
      omega
  obtain ⟨b0, hb0, hq⟩ := jf
  unfold spec_NameOpen.f
  by_cases hd : Go.bits .and .u64 m 33554432 = 0
  · rw [if_pos hd, hb0]
    refine ⟨b0, rfl, fun h => ⟨fun ho => ?_, hq h⟩⟩
    have := ho.1
    unfold Fr.hb at this
    rw [hd] at this
    exact absurd this (by decide)
  rw [if_neg hd]
  by_cases hlr : (((Go.bits .and .u64 m 262144) != 0) != ((Go.bits .and .u64 m 4194304) != 0)) = true
  · rw [if_pos hlr]
    by_cases s1 : s.toList = ([46, 239, 188, 142] : List UInt8)
    · rw [if_pos s1, jt]; exact ⟨true, rfl, fun h => by cases h⟩
    rw [if_neg s1]
    by_cases s2 : s.toList = ([239, 188, 142, 46] : List UInt8)
    · rw [show (s.toList == ([239, 188, 142, 46] : List UInt8)) = true by simpa using s2, jt]
      exact ⟨true, rfl, fun h => by cases h⟩
    · rw [show (s.toList == ([239, 188, 142, 46] : List UInt8)) = false by simpa using s2, hb0]
      refine ⟨b0, rfl, fun h => ⟨fun ho => ?_, hq h⟩⟩
      rw [Lib.toList_data] at s1 s2
      rcases ho.2.2 with h | h
      · exact s1 h
      · exact s2 h
  · rw [if_neg hlr, hb0]
    refine ⟨b0, rfl, fun h => ⟨fun ho => hlr ?_, hq h⟩⟩
    have := ho.2.1
    unfold Fr.hb at this
    simpa using this
/-! ### the walk of the law -/
theorem all_taken (s : ByteArray) : s.data.toList.take s.size = s.data.toList := List.take_of_length_le (Nat.le_refl _ : s.data.toList.length ≤ s.size)
theorem look (x0 : Int) (x5 : ByteArray) (xs : List ByteArray) (i : Int) (p : ByteArray) (hp : p.size ≤ 2147483647) (Q : Prop)
    (H : ∀ x6 : Bool, (x6 = false → Q ∧ (47 : UInt8) ∉ p.data.toList) → Ev (fun k => laws_FnPathThere.l1 k x0 x5 x6 i p xs (xs.length : Int) i (p.size : Int) (p.size : Int)) true) :
    ∀ (n j : Nat) (x6 : Bool), p.size - j = n → j ≤ p.size → (x6 = false → Q ∧ (47 : UInt8) ∉ p.data.toList.take j) → Ev (fun k => laws_FnPathThere.l1 k x0 x5 x6 i p xs (xs.length : Int) i (p.size : Int) (j : Int)) true
  | 0, j, x6, hn, hj, hx => by
    obtain rfl : j = p.size := by omega
    refine H x6 fun h => ?_
    have := hx h
    rwa [all_taken] at this
  | n + 1, j, x6, hn, hj, hx => by
    cases x6 with
    | true =>
      refine Ev.step (fun k => ?_) (look x0 x5 xs i p hp Q H n (j + 1) true (by omega) (by omega) (fun h => by cases h))
      rw [laws_FnPathThere.l1, if_pos (by omega), if_pos rfl, up j (by omega)]
    | false =>
      refine Ev.step (fun k => ?_) (look x0 x5 xs i p hp Q H n (j + 1) (bt p (j : Int) == 47) (by omega) (by omega) (fun h => ?_))
      · rw [laws_FnPathThere.l1, if_pos (by omega), if_neg (by decide), if_pos (by omega), if_pos (by omega), up j (by omega)]
      · refine ⟨(hx rfl).1, fun hm => ?_⟩
        rw [List.take_add_one, at_get p j (by omega), List.mem_append] at hm
        rcases hm with hm | hm
        · exact (hx rfl).2 hm
        · have e : (47 : UInt8) = p.get! j := by simpa using hm
          rw [bt_get p j (by omega), ← e] at h
          exact absurd h (by decide)
theorem count_take (s : ByteArray) (j : Nat) (h : j < s.size) : (s.data.toList.take (j + 1)).count 47 = (s.data.toList.take j).count 47 + if bt s (j : Int) = 47 then 1 else 0 := by
  rw [List.take_add_one, at_get s j h, List.count_append, bt_get s j h]
  congr 1
  rw [Option.toList_some, List.count_singleton]
  have : ((s.get! j == 47) = true) ↔ (((s.get! j).toNat : Int) = 47) := by
    rw [beq_iff_eq]
    constructor
    · intro e; rw [e]; rfl
    · intro e; exact UInt8.toNat_inj.1 (by have : (47 : UInt8).toNat = 47 := rfl; omega)
  by_cases c : ((s.get! j).toNat : Int) = 47
  · rw [if_pos c, if_pos (this.2 c)]
  · rw [if_neg c, if_neg (fun h => c (this.1 h))]
theorem count_le (s : ByteArray) (j : Nat) : (s.data.toList.take j).count 47 ≤ s.size :=
  Nat.le_trans List.count_le_length (by rw [List.length_take]; exact Nat.min_le_right _ _)
theorem count2 (x0 : Int) (x5 x10 : ByteArray) (hs : x5.size ≤ 400000) (x12 : Int)
    (H : Ev (fun k => laws_FnPathThere.l3 k x0 x5 x10 (x5.data.toList.count 47 : Int) x12 (x10.size : Int) 0) true) :
    ∀ (n j : Nat), x5.size - j = n → j ≤ x5.size → Ev (fun k => laws_FnPathThere.l2 k x0 x5 x10 ((x5.data.toList.take j).count 47 : Int) x12 (x5.size : Int) (j : Int)) true
  | 0, j, hn, hj => by
    obtain rfl : j = x5.size := by omega
    refine Ev.step (fun k => ?_) H
    rw [laws_FnPathThere.l2, if_neg (by omega), all_taken]
  | n + 1, j, hn, hj => by
    have hc := count_take x5 j (by omega)
    have hle := count_le x5 j
    refine Ev.step (fun k => ?_) (count2 x0 x5 x10 hs x12 H n (j + 1) (by omega) (by omega))
    rw [laws_FnPathThere.l2, if_pos (by omega), if_pos (by omega), if_pos (by omega), up j (by omega), up _ (by omega)]
    split
    · rename_i h; rw [if_pos h] at hc; rw [hc]
    · rename_i h; rw [if_neg h] at hc; rw [hc]; rfl
theorem count3 (x0 : Int) (x5 x10 : ByteArray) (hs : x10.size ≤ 400000) (x11 : Int)
    (H : Ev (fun k => laws_FnPathThere.l3 k x0 x5 x10 x11 (x10.data.toList.count 47 : Int) (x10.size : Int) (x10.size : Int)) true) :
    ∀ (n j : Nat), x10.size - j = n → j ≤ x10.size → Ev (fun k => laws_FnPathThere.l3 k x0 x5 x10 x11 ((x10.data.toList.take j).count 47 : Int) (x10.size : Int) (j : Int)) true
  | 0, j, hn, hj => by
    obtain rfl : j = x10.size := by omega
    rwa [all_taken]
  | n + 1, j, hn, hj => by
    have hc := count_take x10 j (by omega)
    have hle := count_le x10 j
    refine Ev.step (fun k => ?_) (count3 x0 x5 x10 hs x11 H n (j + 1) (by omega) (by omega))
    rw [laws_FnPathThere.l3, if_pos (by omega), if_pos (by omega), if_pos (by omega), up j (by omega), up _ (by omega)]
    split
    · rename_i h; rw [if_pos h] at hc; rw [hc]
    · rename_i h; rw [if_neg h] at hc; rw [hc]; rfl
theorem to_x (m : Int) : impl_PathTo.f m ⟨#[120]⟩ = some ⟨#[120]⟩ := by
  have e : Pth.mapped (Nto.toName m) ⟨#[120]⟩ = ⟨#[120]⟩ := by
    have h := mapped_join (Nto.toName m) [⟨#[120]⟩] (by simp) (by intro x hx; rw [List.mem_singleton.1 hx]; decide)
    rw [J_one, List.map_cons, List.map_nil, J_one] at h
    rw [h]
    unfold Nto.toName
    split
    · rfl
    · rw [decode_stays _ _ stays_x, encode_stays _ _ stays_x]
  unfold impl_PathTo.f
  rw [e, if_pos ⟨by decide, by decide⟩, ite_self]
/-- The way there and back. -/
theorem back (x0 : Int) (xs : List ByteArray) (hopen : ∀ p ∈ xs, ¬ dotOpen x0 p.data.toList ∧ ¬ quoteOpen x0 (tk p.data.toList)) (hs : hb x0 2 = true ∨ ∀ p ∈ xs, (47 : UInt8) ∉ p.data.toList) (hsum : sumz xs ≤ 65536) (hlen : xs.length ≤ 1000) :
    Ev (fun k => laws_FnPathThere.j3 k x0 (J (xs.map (Enc.encode 33652738))) false) true := by
  have key : (J (xs.map (Enc.encode 33652738))).size ≤ 400000 ∧ ∃ there, (Pth.mapped (Nto.fromName x0) (J (xs.map (Enc.encode 33652738)))).size ≤ 400000 ∧ (if x0 = 33652738 then J (xs.map (Enc.encode 33652738)) else Pth.mapped (Nto.fromName x0) (J (xs.map (Enc.encode 33652738)))) = there ∧ there.size ≤ 400000 ∧ (Pth.mapped (Nto.toName x0) there).size ≤ 400000 ∧ (if x0 = 33652738 then there else Pth.mapped (Nto.toName x0) there) = J (xs.map (Enc.encode 33652738)) ∧ (J (xs.map (Enc.encode 33652738))).data.toList.count 47 = there.data.toList.count 47 := by
    cases xs with
    | nil =>
      refine way x0 [⟨#[]⟩] (by simp) ?_ (.inr ?_) (by decide) (by decide) _ ?_
      · intro p hp
        rw [List.mem_singleton.1 hp]
        refine ⟨?_, ?_⟩
        · rintro ⟨_, _, h⟩
          rcases h with h | h <;> exact absurd h (by decide)
        · rintro ⟨M, q, t, e, _⟩
          have e' : (tk (⟨#[]⟩ : ByteArray).data.toList) = [] := tk_nil
          rw [e'] at e
          simp at e
      · intro p hp
        rw [List.mem_singleton.1 hp]
        decide
      · have e : Enc.encode 33652738 ⟨#[]⟩ = ⟨#[]⟩ := by
          unfold Enc.encode
          rw [if_neg (by decide), if_pos rfl]
        rw [List.map_cons, List.map_nil, e, J_one]
        rfl
    | cons p ps => exact way x0 (p :: ps) (by simp) hopen hs hsum hlen _ rfl
  generalize J (xs.map (Enc.encode 33652738)) = path at key
  obtain ⟨h1, there, h2, h3, h4, h5, h6, h7⟩ := key
  have fin : Ev (fun k => laws_FnPathThere.l3 k x0 path there (path.data.toList.count 47 : Int) (there.data.toList.count 47 : Int) (there.size : Int) (there.size : Int)) true := by
    refine Ev.now fun k => ?_
    rw [laws_FnPathThere.l3, if_neg (by omega), impl_PathTo.f, if_pos ⟨h4, by omega⟩, h6, Option.bind_some, if_pos rfl, if_pos (by rw [h7]), to_x, Option.bind_some, Lib.toList_data]
    rfl
  have g3 := count3 x0 path there h4 (path.data.toList.count 47 : Int) fin there.size 0 rfl (Nat.zero_le _)
  rw [List.take_zero] at g3
  have g2 := count2 x0 path there h1 0 g3 path.size 0 rfl (Nat.zero_le _)
  rw [List.take_zero] at g2
  refine Ev.step (fun k => ?_) g2
  rw [laws_FnPathThere.j3, if_neg (by decide), impl_PathFrom.f, if_pos ⟨h1, by omega⟩, h3, Option.bind_some]
  rfl
theorem round (x0 : Int) (xs : List ByteArray) (hsum : sumz xs ≤ 65536) (hlen : xs.length ≤ 1000) (hsz : ∀ j (hj : j < xs.length), (xs[j]).size ≤ 65536) :
    ∀ (n i : Nat) (x6 : Bool), xs.length - i = n → i ≤ xs.length → (∀ p ∈ xs.take i, ¬ dotOpen x0 p.data.toList ∧ ¬ quoteOpen x0 (tk p.data.toList)) → (x6 = false → ∀ p ∈ xs.take i, (47 : UInt8) ∉ p.data.toList) →
    Ev (fun k => laws_FnPathThere.l0 k x0 (J ((xs.take i).map (Enc.encode 33652738))) x6 xs (xs.length : Int) (i : Int)) true
  | 0, i, x6, hn, hi, ho, hx => by
    rw [List.take_of_length_le (show xs.length ≤ i by omega)] at ho hx ⊢
    have nb : ∀ k, laws_FnPathThere.j3 (k + 1) x0 (J (xs.map (Enc.encode 33652738))) true = some true := fun k => by rw [laws_FnPathThere.j3, if_pos rfl]
    cases x6 with
    | false =>
      refine Ev.step (fun k => ?_) (back x0 xs ho (.inr (hx rfl)) hsum hlen)
      rw [laws_FnPathThere.l0, if_neg (by omega), if_neg (by decide)]
    | true =>
      cases hb2 : hb x0 2 with
      | true =>
        refine Ev.step (fun k => ?_) (back x0 xs ho (.inl hb2) hsum hlen)
        rw [laws_FnPathThere.l0, if_neg (by omega), if_pos rfl, show (Go.bits .and .u64 x0 2 == 0) = false by unfold Fr.hb at hb2; simpa using hb2]
      | false =>
        refine ⟨2, fun k hk => ?_⟩
        obtain ⟨k, rfl⟩ : ∃ k', k = k' + 1 + 1 := ⟨k - 2, by omega⟩
        show laws_FnPathThere.l0 (k + 1 + 1) x0 _ true xs _ _ = some true
        rw [laws_FnPathThere.l0, if_neg (by omega), if_pos rfl, show (Go.bits .and .u64 x0 2 == 0) = true by unfold Fr.hb at hb2; simpa using hb2]
        exact nb k
  | n + 1, i, x6, hn, hi, ho, hx => by
    have hps := hsz i (by omega)
    have hrd := rd_get xs i (by omega)
    generalize hp : xs[i]'(by omega) = p at hps hrd
    have htk : xs.take (i + 1) = xs.take i ++ [p] := by
      rw [List.take_add_one, List.getElem?_eq_getElem (by omega), hp]; rfl
    -- is the name open?
    obtain ⟨b, hb, hbo⟩ : ∃ b, (∀ k, spec_NameOpen.f (k + 1) x0 p = some b) ∧ (b = false → ¬ dotOpen x0 p.data.toList ∧ ¬ quoteOpen x0 (tk p.data.toList)) := by
      obtain ⟨b, h1, h2⟩ := open_all 0 x0 p (by omega)
      refine ⟨b, fun k => ?_, h2⟩
      induction k with
      | zero => exact h1
      | succ k ih => exact spec_NameOpen.mono x0 p (k + 1) b ih
    cases b with
    | true =>
      refine ⟨2, fun k hk => ?_⟩
      obtain ⟨k, rfl⟩ : ∃ k', k = k' + 1 + 1 := ⟨k - 2, by omega⟩
      show laws_FnPathThere.l0 (k + 1 + 1) x0 _ x6 xs _ _ = some true
      rw [laws_FnPathThere.l0, if_pos (by omega), if_pos (by omega), if_pos (by omega), hrd, hb k, Option.bind_some, if_pos rfl]
    | false =>
      have enc_f : impl_NameEncode.f 33652738 p = some (Enc.encode 33652738 p) := by
        rw [impl_NameEncode.f, if_pos (by omega)]
      have esz := enc_size 33652738 p
      have jsz := J_size ((xs.take i).map (Enc.encode 33652738))
      have jsum := sum_enc 33652738 (xs.take i)
      have tsum : sumz (xs.take i) ≤ 65536 := by
        have : ∀ i, sumz (xs.take i) ≤ sumz xs := fun i => by
          have h := congrArg sumz (List.take_append_drop i xs)
          unfold sumz at h ⊢
          rw [List.map_append, List.sum_append] at h
          omega
        exact Nat.le_trans (this i) hsum
      rw [List.length_map, List.length_take] at jsz
      have lk := look x0 (J ((xs.take i).map (Enc.encode 33652738))) xs (i : Int) p (by omega) (∀ q ∈ xs.take i, (47 : UInt8) ∉ q.data.toList) (fun x6' hx' => ?_) p.size 0 x6 rfl (Nat.zero_le _) (fun h => ⟨hx h, by simp⟩)
      · obtain ⟨K, hK⟩ := lk
        refine ⟨K + 2, fun k hk => ?_⟩
        obtain ⟨k, rfl⟩ : ∃ k', k = k' + 1 + 1 := ⟨k - 2, by omega⟩
        show laws_FnPathThere.l0 (k + 1 + 1) x0 _ x6 xs _ _ = some true
        rw [laws_FnPathThere.l0, if_pos (by omega), if_pos (by omega), if_pos (by omega), hrd, hb k, Option.bind_some, if_neg (by decide)]
        exact hK (k + 1) (by omega)
      · have again := round x0 xs hsum hlen hsz n (i + 1) x6' (by omega) (by omega)
          (fun q hq => by
            rw [htk, List.mem_append] at hq
            rcases hq with hq | hq
            · exact ho q hq
            · rw [List.mem_singleton.1 hq]; exact hbo rfl)
          (fun h q hq => by
            rw [htk, List.mem_append] at hq
            rcases hq with hq | hq
            · exact (hx' h).1 q hq
            · rw [List.mem_singleton.1 hq]; exact (hx' h).2)
        rw [htk, List.map_append, List.map_cons, List.map_nil] at again
        refine Ev.step (fun k => ?_) again
        by_cases h0 : i = 0
        · subst h0
          have ez : (⟨#[]⟩ : ByteArray) ++ Enc.encode 33652738 p = Enc.encode 33652738 p := by apply ByteArray.ext; simp [ByteArray.data_append]
          have ej : J ((xs.take 0).map (Enc.encode 33652738)) = ⟨#[]⟩ := rfl
          have ej2 : J ((xs.take 0).map (Enc.encode 33652738) ++ [Enc.encode 33652738 p]) = Enc.encode 33652738 p := J_one _
          rw [laws_FnPathThere.l1, if_neg (by omega), if_neg (by omega), enc_f, Option.bind_some, if_pos (by omega), ej, ej2, ez, up 0 (by omega)]
        · rw [J_snoc _ _ (by
            intro e
            have := congrArg List.length e
            rw [List.length_map, List.length_take, List.length_nil] at this
            omega), laws_FnPathThere.l1, if_neg (by omega), if_pos (by omega), if_pos (by omega), enc_f, Option.bind_some, if_pos (by
            have : (⟨#[47]⟩ : ByteArray).size = 1 := rfl
            rw [ByteArray.size_append]; omega), up i (by omega)]
theorem FnPathThere (a0 : Int) (l1 : List ByteArray) : ∃ k, laws_FnPathThere.f k a0 l1 = some true := by
  by_cases hl : (l1.length : Int) > 2147483647
  · refine ⟨1, ?_⟩
    unfold laws_FnPathThere.f laws_zzFits3.f
    rw [if_pos hl, Option.bind_some, if_neg (by decide)]
  obtain ⟨b, ⟨K1, hb1⟩, hb2⟩ := fits l1 l1.length 0 rfl (Nat.zero_le _) (by omega)
  cases b with
  | false =>
    refine ⟨K1, ?_⟩
    unfold laws_FnPathThere.f laws_zzFits3.f
    have e : laws_zzFits3.l0 K1 l1 (l1.length : Int) 0 = some false := hb1 K1 (Nat.le_refl _)
    rw [if_neg hl, e, Option.bind_some, if_neg (by decide)]
  | true =>
    have hs : ∀ j (hj : j < l1.length), (l1[j]).size ≤ 2147483647 := fun j hj => by
      have := hb2 rfl j (Nat.zero_le _) hj
      rwa [rd_get l1 j hj] at this
    obtain ⟨K2, hb3⟩ := short_all l1 (by omega) hs l1.length 0 rfl (Nat.zero_le _)
    have jt : ∀ k, laws_FnPathThere.j0 (k + 1) a0 l1 true = some true := fun k => by rw [laws_FnPathThere.j0, if_pos rfl]
    by_cases hsum : sumz l1 ≤ 65536
    · by_cases hlen : l1.length ≤ 1000
      · obtain ⟨K3, hb4⟩ := round a0 l1 hsum hlen (fun j hj => by
          have h1 := sumz_take l1 j hj
          have h2 : sumz (l1.take (j + 1)) ≤ sumz l1 := by
            have h := congrArg sumz (List.take_append_drop (j + 1) l1)
            unfold sumz at h ⊢
            rw [List.map_append, List.sum_append] at h
            omega
          omega) l1.length 0 false rfl (Nat.zero_le _) (fun p hp => by simp at hp) (fun _ p hp => by simp at hp)
        refine ⟨K1 + K2 + K3 + 1, ?_⟩
        unfold laws_FnPathThere.f laws_zzFits3.f laws_encShort.f
        have e : laws_zzFits3.l0 (K1 + K2 + K3 + 1) l1 (l1.length : Int) 0 = some true := hb1 _ (by omega)
        have e2 : laws_encShort.l0 (K1 + K2 + K3 + 1) 0 l1 (l1.length : Int) 0 = some (decide (sumz l1 ≤ 65536)) := hb3 _ (by omega)
        rw [if_neg hl, e, Option.bind_some, if_pos rfl, e2, Option.bind_some, decide_eq_true hsum, if_pos rfl, decide_eq_false (by omega), laws_FnPathThere.j0, if_neg (by decide)]
        exact hb4 (K1 + K2 + K3) (by omega)
      · refine ⟨K1 + K2 + 1, ?_⟩
        unfold laws_FnPathThere.f laws_zzFits3.f laws_encShort.f
        have e : laws_zzFits3.l0 (K1 + K2 + 1) l1 (l1.length : Int) 0 = some true := hb1 _ (by omega)
        have e2 : laws_encShort.l0 (K1 + K2 + 1) 0 l1 (l1.length : Int) 0 = some (decide (sumz l1 ≤ 65536)) := hb3 _ (by omega)
        rw [if_neg hl, e, Option.bind_some, if_pos rfl, e2, Option.bind_some, decide_eq_true hsum, if_pos rfl, decide_eq_true (by omega)]
        exact jt _
    · refine ⟨K1 + K2 + 1, ?_⟩
      unfold laws_FnPathThere.f laws_zzFits3.f laws_encShort.f
      have e : laws_zzFits3.l0 (K1 + K2 + 1) l1 (l1.length : Int) 0 = some true := hb1 _ (by omega)
      have e2 : laws_encShort.l0 (K1 + K2 + 1) 0 l1 (l1.length : Int) 0 = some (decide (sumz l1 ≤ 65536)) := hb3 _ (by omega)
      rw [if_neg hl, e, Option.bind_some, if_pos rfl, e2, Option.bind_some, decide_eq_false hsum, if_neg (by decide)]
      exact jt _
theorem FnPathThere_walk (a0 : Int) (A1 : Option Addr) (c1 : Nat) (l1 : List ByteArray) (w : World) (hr1 : Kd.C Kd.string w A1 l1.length l1) (hc1 : l1.length ≤ c1) (hglob : Glob w) :
    Calls Tryd.prog 11 #[.int .u64 a0, .slice A1 l1.length c1] w fun e w' => e = .returned (.bool true) ∧ Below w.heap.size w w' := by
  obtain ⟨k, h⟩ := FnPathThere a0 l1
  exact laws_FnPathThere.calls k a0 A1 c1 l1 true w hr1 hc1 hglob h
end Go.Proofs.YtlgoghonnnobfaaDoor.Pure
