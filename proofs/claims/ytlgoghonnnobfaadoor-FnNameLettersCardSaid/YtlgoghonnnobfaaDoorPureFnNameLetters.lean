import Derived.Test.YtlgoghonnnobfaaDoorPFnNameLettersx2
import Derived.Test.YtlgoghonnnobfaaDoorMd
import Derived.Test.YtlgoghonnnobfaaDoorRowing
namespace Go.Proofs.YtlgoghonnnobfaaDoor.Pure
open Go Go.RowKit Go.Proofs.YtlgoghonnnobfaaDoor.PFnNameLetters Go.Proofs.YtlgoghonnnobfaaDoorW.PrintWords Go.Proofs.YtlgoghonnnobfaaDoorW.PrintLast
open Go.Proofs.YtlgoghonnnobfaaDoor.Asc
set_option linter.unusedVariables false
set_option linter.unusedSimpArgs false
/-! ### a slice of bytes, its elements' bounds kept -/
def u8b : Kd Int where
  sz := 1
  E := []
  K := fun _ x cs => cs = [.int .u8 x] ∧ 0 ≤ x
  M := fun _ _ _ x cs => cs = [.int .u8 x] ∧ 0 ≤ x
  K_len := fun h => by rw [h.1]; rfl
  K_one := fun h u hu => by
    rw [h.1] at hu
    rw [List.mem_singleton.1 hu]
    rfl
  K_below := fun _ h => h
  K_of_M := fun h => h
  M_mono := fun _ h => h
  M_bound := fun h => h
  M_move := fun _ h => h
  M_lower := fun _ h => h
theorem el_u8b {H : Type} {enc : TypeId × Value → H} {P : Program} {w : World} {base : Nat} {spare : Nat → Bool} {held : Bool} {e : TypeId} (he : P.underlying e = some (.int .u8)) (n : Nat) (cs : List Value) (y : DataW H × List MemPlace) (h : DataW.trod enc P w base spare held n e cs = some y) (_ : cs.length = u8b.sz) : ∃ x, u8b.K w x cs := by
  obtain ⟨b, rfl, _, hw⟩ := DataW.trod_int he h
  exact ⟨b, rfl, by have := bounds_u8 hw; omega⟩
theorem u8b_int {w : World} {A : Option Addr} {l : List Int} (h : u8b.C w A l.length l) : (Kd.int .u8).C w A l.length l := Kd.C_imp (d := u8b) (d' := Kd.int .u8) rfl (fun _ _ _ hk => hk.1) h
theorem u8b_pos {w : World} {A : Option Addr} {l : List Int} (h : u8b.C w A l.length l) (i : Int) (h0 : 0 ≤ i) (h1 : i < l.length) : 0 ≤ rd l i := by
  obtain ⟨_, c, _, _, hk, _⟩ := Kd.C_get h 0 i h0 h1
  exact hk.2
/-! ### letters and digits -/
def Alnum (b : Nat) : Prop := (97 ≤ Go.bits .or .u8 (b : Int) 32 ∧ Go.bits .or .u8 (b : Int) 32 ≤ 122) ∨ (48 ≤ b ∧ b ≤ 57)
instance (b : Nat) : Decidable (Alnum b) := inferInstanceAs (Decidable (_ ∨ _))
theorem alnum_all : ∀ b : Fin 256, Alnum b.val → b.val < 128 ∧ plainB b.val = true ∧ inner b.val := by decide +kernel
theorem alnum_byte (b : UInt8) (h : Alnum b.toNat) : b.toNat < 128 ∧ plainB b.toNat = true ∧ inner b.toNat := alnum_all ⟨b.toNat, b.toNat_lt⟩ h
/-- What a name is made of. -/
structure Nm (l : List UInt8) : Prop where
  ne : l ≠ []
  all : ∀ b ∈ l, b.toNat < 128 ∧ plainB b.toNat = true
  first : ∀ b, l.head? = some b → inner b.toNat
  last : ∀ b, l.getLast? = some b → inner b.toNat
theorem Nm.stays {s : ByteArray} (h : Nm s.data.toList) : Stays s := by
  have e : s.data.toList.length = s.size := rfl
  have hp : 0 < s.size := by have := List.length_pos_iff.2 h.ne; omega
  have g : ∀ i, i < s.size → s.data.toList[i]? = some (s.get! i) := fun i hi => by
    rw [← Lib.getD_get!', List.getD_eq_getElem?_getD, List.getElem?_eq_getElem (by omega)]
    rfl
  refine ⟨hp, fun i hi => h.all _ (List.mem_of_getElem? (g i hi)), h.first _ ?_, h.last _ ?_⟩
  · rw [← g 0 hp, List.head?_eq_getElem?]
  · rw [← g (s.size - 1) (by omega), List.getLast?_eq_getElem?, e]
theorem Nm.alnum {l : List UInt8} (h : l ≠ []) (ha : ∀ b ∈ l, Alnum b.toNat) : Nm l :=
  ⟨h, fun b hb => ⟨(alnum_byte b (ha b hb)).1, (alnum_byte b (ha b hb)).2.1⟩, fun b hb => (alnum_byte b (ha b (List.mem_of_head? hb))).2.2, fun b hb => (alnum_byte b (ha b (List.mem_of_getLast? hb))).2.2⟩
theorem Nm.more {l p : List UInt8} {c : UInt8} (h : Nm l) (hc : c.toNat < 128 ∧ plainB c.toNat = true) (hp : Nm p) : Nm (l ++ [c] ++ p) := by
  refine ⟨by simp [h.ne], ?_, ?_, ?_⟩
  · intro b hb
    simp only [List.mem_append, List.mem_singleton] at hb
    rcases hb with (hb | rfl) | hb
    · exact h.all b hb
    · exact hc
    · exact hp.all b hb
  · intro b hb
    refine h.first b ?_
    obtain ⟨x, t, e⟩ := List.exists_cons_of_ne_nil h.ne
    rw [e] at hb ⊢
    simpa using hb
  · intro b hb
    refine hp.last b ?_
    rw [List.getLast?_append, List.getLast?_eq_some_getLast hp.ne] at hb
    rw [List.getLast?_eq_some_getLast hp.ne]
    simpa using hb
theorem encode_empty (m : Int) : Enc.encode m ⟨#[]⟩ = ⟨#[]⟩ := by
  unfold Enc.encode
  split
  · rfl
  · rw [if_pos rfl]
theorem decode_empty (m : Int) : Dec.decode m ⟨#[]⟩ = ⟨#[]⟩ := by
  unfold Dec.decode
  split
  · rfl
  rw [if_neg (by simp), if_neg (by simp), if_neg (by simp), if_neg (by simp)]
  have h1 : Dec.dheads m ⟨#[]⟩ = (⟨#[]⟩, ⟨#[]⟩) := by
    have e : Lib.decodeGo (⟨#[]⟩ : ByteArray) = (65533, 0) := rfl
    have d : Dec.dleft m 65533 = none := by simp [Dec.dleft, Dec.isS, Enc.isCtl]
    unfold Dec.dheads
    rw [e]
    simp only [d]
    rfl
  have h2 : Dec.dtails m ⟨#[]⟩ = (⟨#[]⟩, ⟨#[]⟩) := by
    have e : Dec.lst (⟨#[]⟩ : ByteArray) = (65533, 0) := rfl
    have d : Dec.dright m 65533 = none := by simp [Dec.dright, Dec.isS, Enc.isCtl]
    unfold Dec.dtails
    rw [e]
    simp only [d]
  unfold Dec.decodeT
  rw [h1]
  simp only
  rw [h2]
  rfl
/-! ### the law -/
theorem short_two (k : Nat) (a b : ByteArray) (ha : a.size ≤ 2147483647) (hb : b.size ≤ 2147483647) : laws_encShort.f (k + 3) [a, b] = some (decide ((a.size : Int) + b.size ≤ 65536)) := by
  have w1 : wrap64 (0 + (a.size : Int)) = (a.size : Int) := by rw [Int.zero_add]; exact IntWalk.wrap64_in _ (by omega)
  have w2 : wrap64 ((a.size : Int) + (b.size : Int)) = (a.size : Int) + b.size := IntWalk.wrap64_in _ (by omega)
  have r1 : rdOf ByteArray.empty [a, b] 0 = a := rfl
  have r2 : rdOf ByteArray.empty [a, b] 1 = b := rfl
  have w3 : wrap64 (0 + 1) = 1 := IntWalk.wrap64_in _ (by omega)
  have w4 : wrap64 (1 + 1) = 2 := IntWalk.wrap64_in _ (by omega)
  have hl : (([a, b] : List ByteArray).length : Int) = 2 := rfl
  simp only [laws_encShort.f, laws_encShort.l0, r1, r2, w1, w2, w3, w4, hl, Int.reduceLT, Int.reduceLE, if_true, if_false]
/-- All texts are short enough, or not. -/
theorem fits (l : List ByteArray) : ∀ (n i : Nat), l.length - i = n → i ≤ l.length → l.length ≤ 2147483647 → ∃ b, (∀ k, n + 1 ≤ k → laws_zzFits3.l0 k l (l.length : Int) (i : Int) = some b) ∧ (b = true → ∀ j, i ≤ j → j < l.length → (rdOf ByteArray.empty l (j : Int)).size ≤ 2147483647)
  | 0, i, hn, hi, hl => by
    refine ⟨true, fun k hk => ?_, fun _ j h1 h2 => by omega⟩
    obtain ⟨k, rfl⟩ : ∃ k', k = k' + 1 := ⟨k - 1, by omega⟩
    rw [laws_zzFits3.l0, if_neg (by omega)]
  | n + 1, i, hn, hi, hl => by
    by_cases hs : ((rdOf ByteArray.empty l (i : Int)).size : Int) > 2147483647
    · refine ⟨false, fun k hk => ?_, fun h => by cases h⟩
      obtain ⟨k, rfl⟩ : ∃ k', k = k' + 1 := ⟨k - 1, by omega⟩
      rw [laws_zzFits3.l0, if_pos (by omega), if_pos (by omega), if_pos (by omega), if_pos hs]
    · obtain ⟨b, h1, h2⟩ := fits l n (i + 1) (by omega) (by omega) hl
      refine ⟨b, fun k hk => ?_, fun hb j h3 h4 => ?_⟩
      · obtain ⟨k, rfl⟩ : ∃ k', k = k' + 1 := ⟨k - 1, by omega⟩
        rw [laws_zzFits3.l0, if_pos (by omega), if_pos (by omega), if_pos (by omega), if_neg hs, IntWalk.wrap64_in _ (by omega)]
        exact h1 k (by omega)
      · by_cases hj : j = i
        · subst hj; omega
        · exact h2 hb j (by omega) h4
theorem bt_get (s : ByteArray) (j : Nat) (h : j < s.size) : bt s (j : Int) = ((s.get! j).toNat : Int) := by
  unfold bt
  rw [dif_pos (by simpa using h)]
  congr 1
  rw [← Lib.getD_get!', List.getD_eq_getElem?_getD, List.getElem?_eq_getElem (show j < s.data.toList.length from h)]
  rfl
section
variable (x0 : Int) (x2 : List Int) (x1 : List ByteArray)
/-- The bytes of a piece are looked at one by one. -/
theorem look (x7 : ByteArray) (x8 : Int) (p : ByteArray) (x23 : Int) (hp : p.size ≤ 2147483647) (K : Nat)
    (H : (∀ j, j < p.size → Alnum (p.get! j).toNat) → ∀ k, K ≤ k → laws_FnNameLetters.l1 k x0 x2 x7 x8 p x1 (x1.length : Int) x23 (p.size : Int) (p.size : Int) = some true) :
    ∀ (n i : Nat), p.size - i = n → i ≤ p.size → (∀ j, j < i → Alnum (p.get! j).toNat) → ∀ k, K + n + 1 ≤ k → laws_FnNameLetters.l1 k x0 x2 x7 x8 p x1 (x1.length : Int) x23 (p.size : Int) (i : Int) = some true
  | 0, i, hn, hi, ha, k, hk => by
    obtain rfl : i = p.size := by omega
    exact H ha k (by omega)
  | n + 1, i, hn, hi, ha, k, hk => by
    obtain ⟨k, rfl⟩ : ∃ k', k = k' + 1 := ⟨k - 1, by omega⟩
    have hb := bt_get p i (by omega)
    have w : wrap64 ((i : Int) + 1) = ((i + 1 : Nat) : Int) := by rw [IntWalk.wrap64_in _ (by omega)]; simp
    have go : Alnum (p.get! i).toNat → laws_FnNameLetters.l1 k x0 x2 x7 x8 p x1 (x1.length : Int) x23 (p.size : Int) ((i + 1 : Nat) : Int) = some true := fun h =>
      look x7 x8 p x23 hp K H n (i + 1) (by omega) (by omega) (fun j hj => by
        by_cases e : j = i
        · subst e; exact h
        · exact ha j (by omega)) k (by omega)
    rw [laws_FnNameLetters.l1, if_pos (by omega), if_pos (by omega), if_pos (by omega), hb, w]
    generalize (p.get! i).toNat = b at go
    split
    · split
      · rfl
      · split
        · rfl
        · exact go (.inr (by omega))
    · split
      · split
        · rfl
        · split
          · rfl
          · exact go (.inr (by omega))
      · exact go (.inl (by omega))
/-- The name that was made is written, and read, as it is. -/
theorem done (s : ByteArray) (hs : s = ⟨#[]⟩ ∨ Nm s.data.toList) (hl : s.size ≤ 70000) (k : Nat) (x22 x23 : Int) (h : ¬ x23 < x22) : laws_FnNameLetters.l0 (k + 1) x0 x2 s x1 x22 x23 = some true := by
  have e1 : Enc.encode x0 s = s := by
    rcases hs with rfl | hs
    · exact encode_empty x0
    · exact encode_stays x0 s hs.stays
  have e2 : Dec.decode x0 s = s := by
    rcases hs with rfl | hs
    · exact decode_empty x0
    · exact decode_stays x0 s hs.stays
  have c : s.size ≤ 400000 := by omega
  have c2 : (⟨#[120]⟩ : ByteArray).size ≤ 400000 := by decide
  rw [laws_FnNameLetters.l0, if_neg h]
  simp only [impl_NameEncode.f, impl_NameDecode.f, if_pos c, if_pos c2, Option.bind_some, e1, e2, if_true, encode_stays _ _ stays_x]
  rw [Lib.toList_data]
  rfl
end
theorem nums_data (n : Int) : (strOfNums [n]).data.toList = [UInt8.ofNat n.toNat] := by simp [strOfNums]
theorem nums_size (n : Int) : (strOfNums [n]).size = 1 := rfl
theorem between_all : ∀ i : Fin 4, (bt (⟨#[46, 32, 45, 95]⟩ : ByteArray) (i.val : Int)).toNat < 128 ∧ plainB (UInt8.ofNat (bt (⟨#[46, 32, 45, 95]⟩ : ByteArray) (i.val : Int)).toNat).toNat = true ∧ (UInt8.ofNat (bt (⟨#[46, 32, 45, 95]⟩ : ByteArray) (i.val : Int)).toNat).toNat < 128 := by decide +kernel
theorem round (x0 : Int) (x2 : List Int) (x1 : List ByteArray) (h2 : ∀ i : Int, 0 ≤ i → i < x2.length → 0 ≤ rd x2 i) (hl : x1.length ≤ 2147483647) (hl2 : x2.length ≤ 2147483647) (hsz : ∀ j, 0 ≤ j → j < x1.length → (rdOf ByteArray.empty x1 (j : Int)).size ≤ 2147483647) :
    ∀ (n i : Nat) (x7 : ByteArray), x1.length - i = n → i ≤ x1.length → (i = 0 ∧ x7 = ⟨#[]⟩ ∨ 0 < i ∧ Nm x7.data.toList) → x7.size ≤ 65537 → ∃ K, ∀ k, K ≤ k → laws_FnNameLetters.l0 k x0 x2 x7 x1 (x1.length : Int) (i : Int) = some true
  | 0, i, x7, hn, hi, hx, hs => by
    refine ⟨1, fun k hk => ?_⟩
    obtain ⟨k, rfl⟩ : ∃ k', k = k' + 1 := ⟨k - 1, by omega⟩
    refine done x0 x2 x1 x7 ?_ (by omega) k _ _ (by omega)
    rcases hx with ⟨_, h⟩ | ⟨_, h⟩
    · exact .inl h
    · exact .inr h
  | n + 1, i, x7, hn, hi, hx, hs => by
    have hps := hsz i (Nat.zero_le _) (by omega)
    have hw : wrap64 ((i : Int) + 1) = ((i + 1 : Nat) : Int) := by rw [IntWalk.wrap64_in _ (by omega)]; simp
    generalize hP : rdOf ByteArray.empty x1 (i : Int) = p at hps
    by_cases hp : p.toList = []
    · refine ⟨2, fun k hk => ?_⟩
      obtain ⟨k, rfl⟩ : ∃ k', k = k' + 1 + 1 := ⟨k - 2, by omega⟩
      rw [laws_FnNameLetters.l0, if_pos (by omega), if_pos (by omega), if_pos (by omega), hP, if_pos hp, laws_FnNameLetters.j2, if_pos rfl]
    have hp' : p.data.toList ≠ [] := by rw [← Lib.toList_data]; exact hp
    by_cases hsum : (x7.size : Int) + p.size ≤ 65536
    · -- what stands behind this piece
      have key : (∀ j, j < p.size → Alnum (p.get! j).toNat) → ∃ K, ∀ k, K ≤ k → laws_FnNameLetters.l1 k x0 x2 x7 (i : Int) p x1 (x1.length : Int) (i : Int) (p.size : Int) (p.size : Int) = some true := by
        intro ha
        have hNp : Nm p.data.toList := Nm.alnum hp' (fun b hb => by
          obtain ⟨j, hj, rfl⟩ := List.getElem_of_mem hb
          have := ha j hj
          rw [← Lib.getD_get!', List.getD_eq_getElem?_getD, List.getElem?_eq_getElem hj] at this
          exact this)
        by_cases h0 : i = 0
        · obtain rfl : x7 = ⟨#[]⟩ := by rcases hx with ⟨_, h⟩ | ⟨h, _⟩; exact h; omega
          have ez : (⟨#[]⟩ : ByteArray) ++ p = p := by apply ByteArray.ext; simp [ByteArray.data_append]
          have sz : (⟨#[]⟩ : ByteArray).size = 0 := rfl
          obtain ⟨K, hK⟩ := round x0 x2 x1 h2 hl hl2 hsz n (i + 1) p (by omega) (by omega) (.inr ⟨by omega, hNp⟩) (by omega)
          refine ⟨K + 1, fun k hk => ?_⟩
          obtain ⟨k, rfl⟩ : ∃ k', k = k' + 1 := ⟨k - 1, by omega⟩
          rw [laws_FnNameLetters.l1, if_neg (by omega), if_neg (by omega), if_pos (by omega), hw, ez]
          exact hK k (by omega)
        · have hNx : Nm x7.data.toList := by rcases hx with ⟨h, _⟩ | ⟨_, h⟩; omega; exact h
          have next : ∀ c : Int, (UInt8.ofNat c.toNat).toNat < 128 ∧ plainB (UInt8.ofNat c.toNat).toNat = true → ∃ K, ∀ k, K ≤ k → laws_FnNameLetters.l0 k x0 x2 ((x7 ++ strOfNums [c]) ++ p) x1 (x1.length : Int) ((i + 1 : Nat) : Int) = some true := by
            intro c hc
            refine round x0 x2 x1 h2 hl hl2 hsz n (i + 1) _ (by omega) (by omega) (.inr ⟨by omega, ?_⟩) (by rw [ByteArray.size_append, ByteArray.size_append, nums_size]; omega)
            have := hNx.more hc hNp
            rw [← nums_data c] at this
            simpa [ByteArray.data_append] using this
          by_cases hle : (i : Int) ≤ x2.length
          · have hw1 : wrap64 ((i : Int) - 1) = ((i : Int) - 1) := IntWalk.wrap64_in _ (by omega)
            have h2' := h2 ((i : Int) - 1) (by omega) (by omega)
            have t0 : 0 ≤ Int.tmod (rd x2 ((i : Int) - 1)) 4 := Int.tmod_nonneg _ h2'
            have t1 : Int.tmod (rd x2 ((i : Int) - 1)) 4 < 4 := Int.tmod_lt_of_pos _ (by decide)
            obtain ⟨q, hq⟩ := Int.eq_ofNat_of_zero_le t0
            have hb := between_all ⟨q, by omega⟩
            obtain ⟨K, hK⟩ := next (bt (⟨#[46, 32, 45, 95]⟩ : ByteArray) (q : Int)) ⟨hb.2.2, hb.2.1⟩
            refine ⟨K + 1, fun k hk => ?_⟩
            obtain ⟨k, rfl⟩ : ∃ k', k = k' + 1 := ⟨k - 1, by omega⟩
            rw [laws_FnNameLetters.l1, if_neg (by omega), if_pos (by omega), if_pos hle, hw1, if_pos (by omega), if_pos (by omega), if_pos t0, if_pos t1, Option.bind_some, if_pos (by rw [nums_size]; omega), if_pos (by rw [ByteArray.size_append, nums_size]; omega), hw, hq]
            exact hK k (by omega)
          · obtain ⟨K, hK⟩ := next 46 (by decide)
            refine ⟨K + 1, fun k hk => ?_⟩
            obtain ⟨k, rfl⟩ : ∃ k', k = k' + 1 := ⟨k - 1, by omega⟩
            rw [laws_FnNameLetters.l1, if_neg (by omega), if_pos (by omega), if_neg hle, Option.bind_some, if_pos (by rw [nums_size]; omega), if_pos (by rw [ByteArray.size_append, nums_size]; omega), hw]
            exact hK k (by omega)
      obtain ⟨K, hK⟩ : ∃ K, (∀ j, j < p.size → Alnum (p.get! j).toNat) → ∀ k, K ≤ k → laws_FnNameLetters.l1 k x0 x2 x7 (i : Int) p x1 (x1.length : Int) (i : Int) (p.size : Int) (p.size : Int) = some true := by
        by_cases ha : ∀ j, j < p.size → Alnum (p.get! j).toNat
        · obtain ⟨K, h⟩ := key ha; exact ⟨K, fun _ => h⟩
        · exact ⟨0, fun h => absurd h ha⟩
      have hlook := look x0 x2 x1 x7 (i : Int) p (i : Int) hps K hK p.size 0 rfl (Nat.zero_le _) (fun j hj => by omega)
      refine ⟨K + p.size + 6, fun k hk => ?_⟩
      obtain ⟨k, rfl⟩ : ∃ k', k = k' + 3 + 1 + 1 := ⟨k - 5, by omega⟩
      rw [laws_FnNameLetters.l0, if_pos (by omega), if_pos (by omega), if_pos (by omega), hP, if_neg hp, show k + 3 + 1 = (k + 1) + 3 from rfl, short_two (k + 1) x7 p (by omega) hps, Option.bind_some, decide_eq_true hsum, show (k + 1) + 3 = (k + 3) + 1 from rfl, laws_FnNameLetters.j2, if_neg (by decide)]
      exact hlook (k + 3) (by omega)
    · refine ⟨5, fun k hk => ?_⟩
      obtain ⟨k, rfl⟩ : ∃ k', k = k' + 3 + 1 + 1 := ⟨k - 5, by omega⟩
      rw [laws_FnNameLetters.l0, if_pos (by omega), if_pos (by omega), if_pos (by omega), hP, if_neg hp, show k + 3 + 1 = (k + 1) + 3 from rfl, short_two (k + 1) x7 p (by omega) hps, Option.bind_some, decide_eq_false hsum, show (k + 1) + 3 = (k + 3) + 1 from rfl, laws_FnNameLetters.j2, if_pos (by decide)]
theorem FnNameLetters (a0 : Int) (l1 : List ByteArray) (l2 : List Int) (h2 : ∀ i : Int, 0 ≤ i → i < l2.length → 0 ≤ rd l2 i) : ∃ k, laws_FnNameLetters.f k a0 l1 l2 = some true := by
  have jt : ∀ k, laws_FnNameLetters.j0 (k + 1) a0 l1 l2 true = some true := fun k => by rw [laws_FnNameLetters.j0, if_pos rfl]
  by_cases hl : (l1.length : Int) > 2147483647
  · refine ⟨1, ?_⟩
    unfold laws_FnNameLetters.f laws_zzFits3.f
    rw [if_pos hl, Option.bind_some, if_neg (by decide)]
    exact jt 0
  obtain ⟨b, hb1, hb2⟩ := fits l1 l1.length 0 rfl (Nat.zero_le _) (by omega)
  by_cases hb : b = true ∧ ¬ (l2.length : Int) > 2147483647
  · obtain ⟨K, hK⟩ := round a0 l2 l1 h2 (by omega) (by have := hb.2; omega) (fun j h0 h1 => hb2 hb.1 j h0 h1) l1.length 0 ⟨#[]⟩ rfl (Nat.zero_le _) (.inl ⟨rfl, rfl⟩) (by decide)
    refine ⟨K + l1.length + 1 + 1, ?_⟩
    unfold laws_FnNameLetters.f laws_zzFits3.f
    have e : laws_zzFits3.l0 (K + l1.length + 1 + 1) l1 (l1.length : Int) 0 = some b := hb1 (K + l1.length + 1 + 1) (by omega)
    rw [if_neg hl, e, Option.bind_some, if_pos hb.1, laws_FnNameLetters.j0, if_neg (by simpa using hb.2)]
    exact hK _ (by omega)
  · refine ⟨l1.length + 1 + 1, ?_⟩
    unfold laws_FnNameLetters.f laws_zzFits3.f
    have e : laws_zzFits3.l0 (l1.length + 1 + 1) l1 (l1.length : Int) 0 = some b := hb1 (l1.length + 1 + 1) (by omega)
    rw [if_neg hl, e, Option.bind_some]
    by_cases hb' : b = true
    · rw [if_pos hb', decide_eq_true (by by_cases h : (l2.length : Int) > 2147483647; exact h; exact absurd ⟨hb', h⟩ hb)]
      exact jt _
    · rw [if_neg hb']
      exact jt _
theorem FnNameLetters_walk (a0 : Int) (A1 : Option Addr) (c1 : Nat) (l1 : List ByteArray) (A2 : Option Addr) (c2 : Nat) (l2 : List Int) (w : World) (hr1 : Kd.C Kd.string w A1 l1.length l1) (hc1 : l1.length ≤ c1) (hr2 : u8b.C w A2 l2.length l2) (hc2 : l2.length ≤ c2) (hglob : Glob w) :
    Calls Tryd.prog 8 #[.int .u64 a0, .slice A1 l1.length c1, .slice A2 l2.length c2] w fun e w' => e = .returned (.bool true) ∧ Below w.heap.size w w' := by
  obtain ⟨k, h⟩ := FnNameLetters a0 l1 l2 (fun i h0 h1 => u8b_pos hr2 i h0 h1)
  exact laws_FnNameLetters.calls k a0 A1 c1 l1 A2 c2 l2 true w hr1 hc1 (u8b_int hr2) hc2 hglob h
end Go.Proofs.YtlgoghonnnobfaaDoor.Pure
