/- A text is all slashes if it has one at least, and nothing else: for every text. -/
import Derived.Test.YtecfojgamdilnaaPFnSlashesx1
namespace Go.Proofs.Ytecfojgamdilnaa.Pure
open Go.RowKit Go.Proofs.Ytecfojgamdilnaa.PFnSlashes Go.Proofs.YtecfojgamdilnaaW.PrintWords Go.Proofs.YtecfojgamdilnaaW.PrintLast

theorem bt_is (s : ByteArray) (i : Nat) (h : i < s.size) : bt s (i : Int) = ((s[i]'h).toNat : Int) := by
  simp [bt, h]

/-- From place i on all bytes are slashes. -/
def upFrom (s : ByteArray) (i : Nat) : Bool := decide (∀ j (h : j < s.size), i ≤ j → (s[j]'h) = 47)

theorem upFrom_step (s : ByteArray) (i : Nat) (h : i < s.size) : upFrom s i = (((s[i]'h) == 47) && upFrom s (i + 1)) := by
  rw [Bool.eq_iff_iff]
  simp only [upFrom, Bool.and_eq_true, decide_eq_true_eq, beq_iff_eq]
  constructor
  · exact fun hh => ⟨hh i h (Nat.le_refl _), fun j hj hij => hh j hj (by omega)⟩
  · rintro ⟨h1, h2⟩ j hj hij
    by_cases e : j = i
    · subst e; exact h1
    · exact h2 j hj (by omega)

theorem upFrom_end (s : ByteArray) : upFrom s s.size = true := by
  simp only [upFrom, decide_eq_true_eq]; intro j hj h; omega

theorem bt_slash (s : ByteArray) (i : Nat) (h : i < s.size) : (bt s (i : Int) == 47) = ((s[i]'h) == 47) := by
  rw [bt_is s i h, Bool.eq_iff_iff, beq_iff_eq, beq_iff_eq]
  constructor
  · intro e; exact UInt8.toNat_inj.1 (by simpa using Int.ofNat.inj e)
  · intro e; rw [e]; rfl

theorem loop_tells (s : ByteArray) (hs : s.size ≤ 140737488351232) (d : Nat) : ∀ (i k : Nat) (b : Bool), s.size - i = d → i ≤ s.size → d < k →
    (∀ x, (b && upFrom s i) = x → bucket_IsAllSlashes.f s = some x) → laws_FnSlashes.l0 k s b (s.size : Int) (i : Int) = some true := by
  induction d with
  | zero =>
    intro i k b hd hi hk hx
    obtain ⟨k, rfl⟩ : ∃ m, k = m + 1 := ⟨k - 1, by omega⟩
    have he : i = s.size := by omega
    subst he
    have hf := hx b (by rw [upFrom_end, Bool.and_true])
    have h1 : impl_Slashes.f s = some b := by simp [impl_Slashes.f, hf]
    have h2 : impl_Slashes.f (⟨#[47, 47]⟩ : ByteArray) = some true := by decide +kernel
    have h3 : impl_Slashes.f (⟨#[]⟩ : ByteArray) = some false := by decide +kernel
    simp only [laws_FnSlashes.l0]
    rw [if_neg (by omega), h1, h2, h3]
    simp
  | succ d ih =>
    intro i k b hd hi hk hx
    obtain ⟨k, rfl⟩ : ∃ m, k = m + 1 := ⟨k - 1, by omega⟩
    have hlt : i < s.size := by omega
    have hw : wrap64 ((i : Int) + 1) = ((i + 1 : Nat) : Int) := by unfold wrap64; omega
    simp only [laws_FnSlashes.l0]
    rw [if_pos (by omega), hw]
    cases b with
    | true =>
      rw [if_pos rfl, if_pos (by omega), if_pos (by omega)]
      refine ih (i + 1) k _ (by omega) (by omega) (by omega) (fun x h => hx x ?_)
      rw [← h, bt_slash s i hlt, upFrom_step s i hlt]; simp
    | false =>
      rw [if_neg (by simp)]
      exact ih (i + 1) k false (by omega) (by omega) (by omega) (fun x h => hx x (by simpa using h))

theorem FnSlashes : laws_FnSlashes.Pure := by
  intro s hs
  refine ⟨s.size + 1, ?_⟩
  unfold laws_FnSlashes.f
  split
  · rfl
  · split
    · rfl
    · refine loop_tells s hs s.size 0 (s.size + 1) _ (by omega) (by omega) (by omega) (fun x h => ?_)
      rw [← h]
      simp only [bucket_IsAllSlashes.f, bucket_IsAllSlashes.all, upFrom]
      congr 1
      congr 1
      · rw [Bool.eq_iff_iff]; simp only [decide_eq_true_eq, bne_iff_ne, ne_eq]
        rw [Go.ByteArray.toList_eq]
        constructor
        · intro h h0
          have : s.data.toList.length = 0 := by rw [h0]; rfl
          have e : s.data.toList.length = s.size := rfl
          omega
        · intro h
          have e : s.data.toList.length = s.size := rfl
          rcases Nat.eq_zero_or_pos s.size with h1 | h1
          · exact absurd (List.length_eq_zero_iff.1 (e.trans h1)) h
          · exact h1
      · simp

end Go.Proofs.Ytecfojgamdilnaa.Pure
