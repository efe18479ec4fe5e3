/- What masks and names do to each other, in plain Lean; what the listed package variables give. -/
import Derived.Test.YtlgoghonnnobfaaDoorMe
import Derived.Test.YtlgoghonnnobfaaDoorMt
import Derived.Test.YtlgoghonnnobfaaDoorMc
namespace Go.Proofs.YtlgoghonnnobfaaDoor.Cong
open Go Go.Proofs.YtlgoghonnnobfaaDoor.Fr Go.Proofs.YtlgoghonnnobfaaDoor.Enc Go.Proofs.YtlgoghonnnobfaaDoor.Dec
set_option linter.unusedVariables false
set_option linter.unusedSimpArgs false
/-! ### masks that have the same bits do the same (plain Lean, no program in sight) -/
/-- The same bits of those that take characters wherever they stand. -/
structure Mid (m m' : Int) : Prop where
  bit : ∀ b ∈ Enc.bits, hb m b.f = hb m' b.f
  inv : hb m 16777216 = hb m' 16777216
theorem by_congr {m m' : Int} (r : Int) : ∀ l : List Bit, (∀ b ∈ l, hb m b.f = hb m' b.f) → by' m r l = by' m' r l
  | [], _ => rfl
  | b :: t, h => by rw [by', by', h b (by simp), by_congr r t (fun c hc => h c (by simp [hc]))]
theorem decBy_congr {m m' : Int} (r : Int) (uq : Bool) : ∀ l : List Bit, (∀ b ∈ l, hb m b.f = hb m' b.f) → decBy m r uq l = decBy m' r uq l
  | [], _ => rfl
  | b :: t, h => by rw [decBy, decBy, h b (by simp), decBy_congr r uq t (fun c hc => h c (by simp [hc]))]
theorem hit_congr {m m' : Int} (r : Int) : ∀ l : List (Int × List Int), (∀ p ∈ l, hb m p.1 = hb m' p.1) → hit m r l = hit m' r l
  | [], _ => rfl
  | (f, c) :: t, h => by rw [hit, hit, h (f, c) (by simp), hit_congr r t (fun c hc => h c (by simp [hc]))]
theorem unit_congr {m m' : Int} (h : Mid m m') (s : ByteArray) (pos : Nat) : unit m s pos = unit m' s pos := by
  unfold unit
  rw [h.inv, by_congr _ _ h.bit]
theorem encFrom_congr {m m' : Int} (h : Mid m m') (s : ByteArray) : ∀ f pos, encFrom m s f pos = encFrom m' s f pos
  | 0, _ => rfl
  | f + 1, pos => by rw [encFrom, encFrom, unit_congr h, encFrom_congr h s f]
theorem encAll_congr {m m' : Int} (h : Mid m m') (s : ByteArray) : encAll m s = encAll m' s := encFrom_congr h s _ _
theorem stopE_congr {m m' : Int} (h : Mid m m') (r : Int) : stopE m r = stopE m' r := by
  unfold stopE
  rw [hit_congr r _ (fun p hp => by obtain ⟨b, hb', rfl⟩ := List.mem_map.1 hp; exact h.bit b hb')]
theorem stopD_congr {m m' : Int} (h : Mid m m') (r : Int) : stopD m r = stopD m' r := by
  unfold stopD
  rw [hit_congr r _ (fun p hp => by obtain ⟨b, hb', rfl⟩ := List.mem_map.1 hp; exact h.bit b hb')]
theorem idxE_congr {m m' : Int} (h : Mid m m') (s : ByteArray) : idxE m s = idxE m' s := by
  unfold idxE
  congr 1
  funext x
  exact stopE_congr h _
theorem idxD_congr {m m' : Int} (h : Mid m m') (s : ByteArray) : idxD m s = idxD m' s := by
  unfold idxD
  congr 1
  funext x
  exact stopD_congr h _
theorem dstep_congr {m m' : Int} (h : Mid m m') (r : Int) (un : Bool) (raw : List UInt8) (rest : ByteArray) : dstep m r un raw rest = dstep m' r un raw rest := by
  unfold dstep
  rw [h.inv, decBy_congr _ _ _ h.bit]
theorem decFrom_congr {m m' : Int} (h : Mid m m') (s : ByteArray) : ∀ f pos un sk, decFrom m s f pos un sk = decFrom m' s f pos un sk
  | 0, _, _, _ => rfl
  | f + 1, pos, un, sk => by
    have e : dat m s pos un = dat m' s pos un := dstep_congr h _ _ _ _
    rw [decFrom, decFrom, e, decFrom_congr h s f, decFrom_congr h s f]
theorem decAll_congr {m m' : Int} (h : Mid m m') (s : ByteArray) : decAll m s = decAll m' s := by
  unfold decAll
  rw [decFrom_congr h]
theorem bodyL_congr {m m' : Int} (h : Mid m m') (p q s : ByteArray) : bodyL m p q s = bodyL m' p q s := by
  unfold bodyL
  rw [idxE_congr h, encAll_congr h, encAll_congr h]
theorem bodyD_congr {m m' : Int} (h : Mid m m') (p q s : ByteArray) : bodyD m p q s = bodyD m' p q s := by
  unfold bodyD
  rw [idxD_congr h, decAll_congr h, decAll_congr h]
/-- The same bits of the left. -/
structure Left (m m' : Int) : Prop where
  l1 : hb m 131072 = hb m' 131072
  l2 : hb m 262144 = hb m' 262144
  l3 : hb m 524288 = hb m' 524288
  l4 : hb m 1048576 = hb m' 1048576
/-- The same bits of the right. -/
structure Right (m m' : Int) : Prop where
  r1 : hb m 2097152 = hb m' 2097152
  r2 : hb m 4194304 = hb m' 4194304
  r3 : hb m 8388608 = hb m' 8388608
theorem heads_congr {m m' : Int} (h : Left m m') (s : ByteArray) : heads m s = heads m' s := by
  unfold heads lstep4 lstep
  rw [h.l1, h.l2, h.l3, h.l4]
theorem dheads_congr {m m' : Int} (h : Left m m') (s : ByteArray) : dheads m s = dheads m' s := by
  unfold dheads dleft dleftq
  rw [h.l1, h.l2, h.l3, h.l4]
theorem tails_congr {m m' : Int} (h : Right m m') (s : ByteArray) : tailsIf m s = tailsIf m' s := by
  unfold tailsIf tails rstep4 rstep
  rw [h.r1, h.r2, h.r3]
theorem dtails_congr {m m' : Int} (h : Right m m') (s : ByteArray) : dtails m s = dtails m' s := by
  unfold dtails dright
  rw [h.r1, h.r2, h.r3]
/-- Masks with the same bits write, and read, a name the same. -/
theorem encode_congr {m m' : Int} (h1 : m ≠ 1) (h1' : m' ≠ 1) (hm : Mid m m') (hd : hb m 33554432 = hb m' 33554432) (s : ByteArray) (hl : heads m s = heads m' s) (hr : tailsIf m (heads m' s).2 = tailsIf m' (heads m' s).2) : encode m s = encode m' s := by
  unfold encode encodeT
  rw [if_neg h1, if_neg h1', hd, hl, hr, bodyL_congr hm]
theorem decode_congr {m m' : Int} (h1 : m ≠ 1) (h1' : m' ≠ 1) (hm : Mid m m') (hd : hb m 33554432 = hb m' 33554432) (s : ByteArray) (hl : dheads m s = dheads m' s) (hr : dtails m (dheads m' s).2 = dtails m' (dheads m' s).2) : Dec.decode m s = Dec.decode m' s := by
  unfold Dec.decode decodeT
  rw [if_neg h1, if_neg h1', hd, hl, hr, bodyD_congr hm]
end Go.Proofs.YtlgoghonnnobfaaDoor.Cong
namespace Go.Proofs.YtlgoghonnnobfaaDoor.Asc
open Go Go.Lib Go.Proofs.YtlgoghonnnobfaaDoor.Fr Go.Proofs.YtlgoghonnnobfaaDoor.Enc Go.Proofs.YtlgoghonnnobfaaDoor.Dec Go.Proofs.YtlgoghonnnobfaaDoor.Tok
set_option linter.unusedVariables false
set_option linter.unusedSimpArgs false
/-! ### names of which nothing is taken (plain Lean, no program in sight) -/
theorem decode_ascii (s : ByteArray) (pos : Nat) (h : (s.get! pos).toNat < 128) : Utf8.decode s pos = ((s.get! pos).toNat, 1) := by
  rw [decode_at, decodeN_ascii _ _ _ _ _ h]
theorem go_ascii (s : ByteArray) (h0 : 0 < s.size) (h : (s.get! 0).toNat < 128) : decodeGo s = ((s.get! 0).toNat, 1) := by
  unfold decodeGo
  rw [if_neg (by omega), decode_ascii s 0 h]
theorem last_ascii (s : ByteArray) (h0 : 0 < s.size) (h : (s.get! (s.size - 1)).toNat < 128) : decodeLastL s.data.toList = ((s.get! (s.size - 1)).toNat, 1) := by
  have e : s.data.toList.length = s.size := rfl
  unfold decodeLastL
  rw [if_neg (by intro h'; rw [h'] at e; simp at e; omega), e, getD_get!', if_pos h]
/-- A byte that no bit of the left and of the right takes. -/
def inner (c : Nat) : Prop := c < 128 ∧ c ≠ 32 ∧ c ≠ 46 ∧ c ≠ 126 ∧ isCtl c = false
theorem lstep_plain (m f : Int) (c R : Nat) (S : List UInt8) (p : ByteArray × ByteArray) (h0 : 0 < p.2.size) (h : (p.2.get! 0).toNat < 128) (hc : (p.2.get! 0).toNat ≠ c) (hR : 128 ≤ R) : lstep m f c R S p = p := by
  unfold lstep
  split
  · try rw [if_neg hc]
    rw [go_ascii _ h0 h, if_neg (by dsimp only; omega)]
  · rfl
theorem heads_plain (m : Int) (s : ByteArray) (h0 : 0 < s.size) (h : inner (s.get! 0).toNat) : heads m s = (⟨#[]⟩, s) := by
  obtain ⟨g1, g2, g3, g4, g5⟩ := h
  unfold heads
  rw [lstep_plain m 131072 32 9248 _ (⟨#[]⟩, s) h0 g1 g2 (by decide), lstep_plain m 262144 46 65294 _ (⟨#[]⟩, s) h0 g1 g3 (by decide), lstep_plain m 524288 126 65374 _ (⟨#[]⟩, s) h0 g1 g4 (by decide)]
  unfold lstep4
  split
  · rw [if_neg (by rw [g5]; decide), go_ascii s h0 g1, if_neg (by dsimp only; omega)]
  · rfl
theorem rstep_plain (m f : Int) (c R : Nat) (S : List UInt8) (p : ByteArray × ByteArray) (h0 : 0 < p.2.size) (h : (p.2.get! (p.2.size - 1)).toNat < 128) (hc : (p.2.get! (p.2.size - 1)).toNat ≠ c) (hR : 128 ≤ R) : rstep m f c R S p = p := by
  unfold rstep
  split
  · try rw [if_neg hc]
    rw [last_ascii _ h0 h, if_neg (by dsimp only; omega)]
  · rfl
theorem tails_plain (m : Int) (s : ByteArray) (h0 : 0 < s.size) (h : inner (s.get! (s.size - 1)).toNat) : tailsIf m s = (⟨#[]⟩, s) := by
  obtain ⟨g1, g2, g3, g4, g5⟩ := h
  unfold tailsIf tails
  split
  · rfl
  · rw [rstep_plain m 2097152 32 9248 _ (⟨#[]⟩, s) h0 g1 g2 (by decide), rstep_plain m 4194304 46 65294 _ (⟨#[]⟩, s) h0 g1 g3 (by decide)]
    unfold rstep4
    split
    · rw [if_neg (by rw [g5]; decide), last_ascii s h0 g1, if_neg (by dsimp only; omega)]
    · rfl
theorem dleft_low (m : Int) (r : Nat) (h : r < 128) : dleft m r = none ∧ dleftq m r = none := by
  have e : isS r = false := by simp [isS]; omega
  have e1 : ((r : Int) == 9248) = false := by simp; omega
  have e2 : ((r : Int) == 65294) = false := by simp; omega
  have e3 : ((r : Int) == 65374) = false := by simp; omega
  unfold dleft dleftq
  simp [e, e1, e2, e3]
theorem dright_low (m : Int) (r : Nat) (h : r < 128) : dright m r = none := by
  have e : isS r = false := by simp [isS]; omega
  have e1 : ((r : Int) == 9248) = false := by simp; omega
  have e2 : ((r : Int) == 65294) = false := by simp; omega
  unfold dright
  simp [e, e1, e2]
theorem dheads_plain (m : Int) (s : ByteArray) (h0 : 0 < s.size) (h : (s.get! 0).toNat < 128) : dheads m s = (⟨#[]⟩, s) := by
  unfold dheads
  rw [go_ascii s h0 h]
  simp only [(dleft_low m _ h).1]
  rw [if_neg (by simp; omega)]
theorem dtails_plain (m : Int) (s : ByteArray) (h0 : 0 < s.size) (h : (s.get! (s.size - 1)).toNat < 128) : dtails m s = (⟨#[]⟩, s) := by
  unfold dtails lst
  rw [last_ascii s h0 h]
  simp only [dright_low m _ h]
instance (c : Nat) : Decidable (inner c) := inferInstanceAs (Decidable (_ ∧ _))
/-! ### nothing to be taken within -/
def plainB (c : Nat) : Bool := c != 0 && Enc.bits.all fun b => !(b.cs ++ b.ds).contains (c : Int)
theorem hit_none (m r : Int) : ∀ l : List (Int × List Int), (∀ p ∈ l, r ∉ p.2) → Enc.hit m r l = false
  | [], _ => rfl
  | (f, c) :: t, h => by
    rw [Enc.hit, if_neg (fun hh => h (f, c) (by simp) hh.2)]
    exact hit_none m r t fun p hp => h p (by simp [hp])
theorem plain_not {c : Nat} (h : plainB c = true) : c ≠ 0 ∧ ∀ b ∈ Enc.bits, (c : Int) ∉ b.cs ++ b.ds := by
  unfold plainB at h
  rw [Bool.and_eq_true] at h
  refine ⟨by simpa using h.1, fun b hb hc => ?_⟩
  have := List.all_eq_true.1 h.2 b hb
  rw [List.contains_iff_mem.2 hc] at this
  exact absurd this (by decide)
theorem stopE_plain (m : Int) (c : Nat) (h1 : c < 128) (h : plainB c = true) : stopE m (c : Int) = false := by
  obtain ⟨h0, hb⟩ := plain_not h
  unfold stopE
  rw [if_neg (by omega)]
  refine hit_none _ _ _ fun p hp => ?_
  obtain ⟨b, hb', rfl⟩ := List.mem_map.1 hp
  exact hb b hb'
theorem stopD_plain (m : Int) (c : Nat) (h1 : c < 128) (h : plainB c = true) : stopD m (c : Int) = false := by
  obtain ⟨h0, hb⟩ := plain_not h
  unfold stopD
  rw [if_neg (by omega)]
  refine hit_none _ _ _ fun p hp hc => ?_
  obtain ⟨b, hb', rfl⟩ := List.mem_map.1 hp
  exact hb b hb' (List.mem_append_right _ hc)
theorem idx_none (p : Nat → Bool) (s : ByteArray) (h : ∀ i, i < s.size → (s.get! i).toNat < 128 ∧ p (s.get! i).toNat = false) : ∀ f pos, idxFuncFrom p true s f pos = -1
  | 0, _ => rfl
  | f + 1, pos => by
    unfold idxFuncFrom
    split
    · rename_i hp
      rw [decode_ascii s pos (h pos hp).1, if_neg (by rw [(h pos hp).2]; decide)]
      exact idx_none p s h f _
    · rfl
/-- A name of characters of ASCII that no bit takes, at the beginning and at the end such as stay there. -/
structure Stays (s : ByteArray) : Prop where
  pos : 0 < s.size
  all : ∀ i, i < s.size → (s.get! i).toNat < 128 ∧ plainB (s.get! i).toNat = true
  first : inner (s.get! 0).toNat
  last : inner (s.get! (s.size - 1)).toNat
theorem not_first {s : ByteArray} {b : UInt8} {t : List UInt8} (h : s.data.toList = b :: t) : s.get! 0 = b := by
  rw [get_head, h]; rfl
theorem ofList (s : ByteArray) : (⟨s.data.toList.toArray⟩ : ByteArray) = s := by cases s; simp
theorem encode_stays (m : Int) (s : ByteArray) (h : Stays s) : encode m s = s := by
  have hf := h.first
  have hne : s.data.toList ≠ [] := by
    intro e
    have e' : s.data.toList.length = s.size := rfl
    rw [e] at e'
    have := h.pos
    simp at e'
    omega
  unfold encode
  split
  · rfl
  try rw [if_neg hne]
  rw [if_neg (fun e => by rw [not_first e.2] at hf; exact hf.2.2.1 rfl), if_neg (fun e => by rw [not_first e.2] at hf; exact hf.2.2.1 rfl), if_neg (fun e => by rw [not_first e.2] at hf; exact absurd hf.1 (by decide)), if_neg (fun e => by rw [not_first e.2] at hf; exact absurd hf.1 (by decide))]
  unfold encodeT
  rw [heads_plain m s h.pos h.first]
  simp only
  rw [tails_plain m s h.pos h.last]
  unfold bodyL idxE idxFunc
  rw [if_pos ⟨rfl, rfl⟩, if_pos (idx_none _ s (fun i hi => ⟨(h.all i hi).1, stopE_plain m _ (h.all i hi).1 (h.all i hi).2⟩) _ _)]
theorem decode_stays (m : Int) (s : ByteArray) (h : Stays s) : Dec.decode m s = s := by
  have hf := h.first
  unfold Dec.decode
  split
  · rfl
  rw [if_neg (fun e => by rw [not_first e.2] at hf; exact absurd hf.1 (by decide)), if_neg (fun e => by rw [not_first e.2] at hf; exact absurd hf.1 (by decide)), if_neg (fun e => by rw [not_first e.2] at hf; exact absurd hf.1 (by decide)), if_neg (fun e => by rw [not_first e.2] at hf; exact absurd hf.1 (by decide))]
  unfold decodeT
  rw [dheads_plain m s h.pos h.first.1]
  simp only
  rw [dtails_plain m s h.pos h.last.1]
  unfold bodyD idxD idxFunc
  rw [if_pos ⟨rfl, rfl⟩, if_pos (idx_none _ s (fun i hi => ⟨(h.all i hi).1, stopD_plain m _ (h.all i hi).1 (h.all i hi).2⟩) _ _)]
theorem stays_x : Stays ⟨#[120]⟩ := by
  have e : ∀ i, i < (⟨#[120]⟩ : ByteArray).size → ((⟨#[120]⟩ : ByteArray).get! i).toNat = 120 := fun i hi => by
    have : i < 1 := hi
    obtain rfl : i = 0 := by omega
    rfl
  exact ⟨by decide, fun i hi => by rw [e i hi]; decide, by decide, by decide⟩
end Go.Proofs.YtlgoghonnnobfaaDoor.Asc
namespace Go.Proofs.YtlgoghonnnobfaaDoor.Glo
open Go Go.RowKit Go.Proofs.YtlgoghonnnobfaaDoor Go.Proofs.YtlgoghonnnobfaaDoor.Enc
set_option linter.unusedVariables false
/-- .. and the error that tells wrong syntax. -/
def Glob2 (W : World) : Prop := Lib.Utf8Tabs 0 1 W ∧ Syn W
theorem trod_iface {P : Program} {w : World} {base : Nat} {sp : Nat → Bool} {held : Bool} {fuel : Nat} {t : TypeId} {ms : Array (String × TypeId)} {cs : List Value} {r : DataW Unit × List MemPlace} (ht : P.underlying t = some (.interface ms)) (h : DataW.trod (fun _ => ()) P w base sp held fuel t cs = some r) : ∃ v, cs = [v] ∧ (v = .nilIface ∨ ∃ te pe, v = .iface te pe) := by
  cases fuel with
  | zero => simp [DataW.trod] at h
  | succ fuel =>
    rw [DataW.trod.eq_def] at h
    simp only [ht] at h
    split at h <;> first | exact ⟨_, rfl, .inl rfl⟩ | exact ⟨_, rfl, .inr ⟨_, _, rfl⟩⟩ | (simp_all; done) | cases h
theorem syn_of {l : List (String × DataW Unit)} {W : World} {d : DataW Unit} (h : laidMet Tryd.prog l W) (h1 : ("strconv.ErrSyntax", d) ∈ l) : Syn W := by
  obtain ⟨g, t, cs, fuel, p, hg, hty, hvar, hd⟩ := Lib.laidMet.reads h h1
  obtain rfl : g = 3 := Option.some.inj (hg.symm.trans (show Tryd.prog.globalNamed "strconv.ErrSyntax" = some 3 by kernel_rfl))
  obtain rfl : t = 59 := Option.some.inj (hty.symm.trans (by kernel_rfl))
  obtain ⟨v, hv, hk⟩ := trod_iface Tryd.underlying59 hd
  refine ⟨v, ?_, hk⟩
  have := World.var?_cell hg hvar 0
  rw [this, ← Array.getElem?_toList, hv]
  rfl
end Go.Proofs.YtlgoghonnnobfaaDoor.Glo
namespace Go.Proofs.YtlgoghonnnobfaaDoor
open Go Go.RowKit
set_option linter.unusedVariables false
/-- What the package variables hold: utf8's tables, and the error that tells wrong syntax. -/
structure Glob (w : World) : Prop where
  tabs : Lib.Utf8Tabs 0 1 w
  syn : Enc.Syn w
theorem Glob.below {w w' : World} (h : Glob w) (hb : Below w.heap.size w w') : Glob w' := ⟨Utf8Tabs_below h.tabs hb, h.syn.below (B := 0) hb⟩
end Go.Proofs.YtlgoghonnnobfaaDoor
