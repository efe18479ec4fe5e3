import Derived.Test.YtecfojgamdilnaaPFnEscapeAllx1
import Derived.Test.YtecfojgamdilnaaPFnEscapeAllx2
import Derived.Test.YtecfojgamdilnaaPlain
namespace Go.Proofs.Ytecfojgamdilnaa.Esc
open Go.RowKit Go.Proofs.YtecfojgamdilnaaW.PrintWords Go.Proofs.YtecfojgamdilnaaW.PrintLast Go.Proofs.YtecfojgamdilnaaW.PrintMore Go.Proofs.Ytecfojgamdilnaa.Plain Go.Proofs.Ytecfojgamdilnaa.PFnEscapeAll

def ints (l : List UInt8) : List Int := l.map fun x => (x.toNat : Int)
theorem ints_append (a b : List UInt8) : ints (a ++ b) = ints a ++ ints b := by simp [ints]
theorem bits_low : ∀ n : Fin 256, Go.bits .and .u8 ((n.val : Nat) : Int) 15 = ((n.val % 16 : Nat) : Int) := by decide +kernel
theorem hex_bt : ∀ n : Fin 16, bt (⟨#[48, 49, 50, 51, 52, 53, 54, 55, 56, 57, 65, 66, 67, 68, 69, 70]⟩ : ByteArray) ((n.val : Nat) : Int) = ((rest_URLPathEscapeAll.hex n.val).toNat : Int) := by decide +kernel

theorem ev_step (s : ByteArray) (i : Nat) (h : i < s.size) (acc : List UInt8) (hl : acc.length ≤ 20000) (hi : i ≤ 20000) (r : ByteArray)
    (hn : Ev (fun k => spec_EscapeAll.l0 k s (ints (acc ++ rest_URLPathEscapeAll.one (s[i]'h))) ((i + 1 : Nat) : Int)) r) : Ev (fun k => spec_EscapeAll.l0 k s (ints acc) (i : Int)) r := by
  refine Ev.step (fun _ => spec_EscapeAll.l0.eq_2 ..) ?_
  refine Ev.if_pos (by omega) (Ev.if_pos (by omega) ?_)
  rw [bt_is s i h]
  generalize s[i]'h = x at *
  have hx : x.toNat < 256 := x.toNat_lt
  have hw : wrap64 ((i : Int) + 1) = ((i + 1 : Nat) : Int) := by rw [wrap64_of (by omega) (by omega)]; omega
  have P : rest_URLPathEscapeAll.plain (x.toNat : Int) = true → Ev (fun k => if (ints acc).length < 140737488355328 then (spec_EscapeAll.l0 k s (ints acc ++ [(x.toNat : Int)]) (wrap64 ((i : Int) + 1))) else none) r := by
    intro hp
    refine Ev.if_pos (by simp [ints]; omega) ?_
    rw [hw]
    have e : rest_URLPathEscapeAll.one x = [x] := by unfold rest_URLPathEscapeAll.one; rw [if_pos hp]
    rw [e, ints_append] at hn
    exact hn
  have key3 : ∀ fl : Bool, (fl = true ↔ (48 ≤ (x.toNat : Int) ∧ (x.toNat : Int) ≤ 57)) → ¬ (65 ≤ (x.toNat : Int) ∧ (x.toNat : Int) ≤ 90) → ¬ (97 ≤ (x.toNat : Int) ∧ (x.toNat : Int) ≤ 122) → Ev (fun k => spec_EscapeAll.j3 k s (ints acc) (i : Int) (x.toNat : Int) fl) r := by
    intro fl hfl n1 n2
    refine Ev.step (fun _ => spec_EscapeAll.j3.eq_2 ..) ?_
    by_cases hf : fl = true
    · exact Ev.if_pos hf (P (decide_eq_true (by have := hfl.1 hf; omega)))
    refine Ev.if_neg hf ?_
    have n3 : ¬ (48 ≤ (x.toNat : Int) ∧ (x.toNat : Int) ≤ 57) := fun hh => hf (hfl.2 hh)
    by_cases c1 : (x.toNat : Int) = 47
    · exact Ev.if_pos c1 (P (decide_eq_true (by omega)))
    refine Ev.if_neg c1 ?_
    by_cases c2 : (x.toNat : Int) = 45
    · exact Ev.if_pos c2 (P (decide_eq_true (by omega)))
    refine Ev.if_neg c2 ?_
    by_cases c3 : (x.toNat : Int) = 46
    · exact Ev.if_pos c3 (P (decide_eq_true (by omega)))
    refine Ev.if_neg c3 ?_
    by_cases c4 : (x.toNat : Int) = 95
    · exact Ev.if_pos c4 (P (decide_eq_true (by omega)))
    refine Ev.if_neg c4 ?_
    by_cases c5 : (x.toNat : Int) = 126
    · exact Ev.if_pos c5 (P (decide_eq_true (by omega)))
    refine Ev.if_neg c5 ?_
    have hp : ¬ rest_URLPathEscapeAll.plain (x.toNat : Int) = true := by
      intro hp; have := of_decide_eq_true hp; omega
    have b1 := bits_low ⟨x.toNat, hx⟩
    simp only at b1
    have g1 := hex_bt ⟨x.toNat / 16, by omega⟩
    have g2 := hex_bt ⟨x.toNat % 16, by omega⟩
    simp only at g1 g2
    rw [b1]
    have e16 : (x.toNat : Int) / 16 = ((x.toNat / 16 : Nat) : Int) := by omega
    rw [e16]
    refine Ev.if_pos (by omega) (Ev.if_pos (by omega) (Ev.if_pos (by omega) (Ev.if_pos (by omega) ?_)))
    refine Ev.bindc rfl ?_
    refine Ev.if_pos (by simp [ints]; omega) ?_
    rw [hw, g1, g2]
    have e : rest_URLPathEscapeAll.one x = [37, rest_URLPathEscapeAll.hex (x.toNat / 16), rest_URLPathEscapeAll.hex (x.toNat % 16)] := by unfold rest_URLPathEscapeAll.one; rw [if_neg hp]
    rw [e, ints_append] at hn
    exact hn
  have key2 : ∀ fl : Bool, (fl = true ↔ (65 ≤ (x.toNat : Int) ∧ (x.toNat : Int) ≤ 90)) → ¬ (97 ≤ (x.toNat : Int) ∧ (x.toNat : Int) ≤ 122) → Ev (fun k => spec_EscapeAll.j2 k s (ints acc) (i : Int) (x.toNat : Int) fl) r := by
    intro fl hfl n2
    refine Ev.step (fun _ => spec_EscapeAll.j2.eq_2 ..) ?_
    by_cases hf : fl = true
    · exact Ev.if_pos hf (P (decide_eq_true (by have := hfl.1 hf; omega)))
    refine Ev.if_neg hf ?_
    have n1 : ¬ (65 ≤ (x.toNat : Int) ∧ (x.toNat : Int) ≤ 90) := fun hh => hf (hfl.2 hh)
    by_cases c : (x.toNat : Int) ≥ 48
    · exact Ev.if_pos c (key3 _ (by simp; omega) n1 n2)
    · exact Ev.if_neg c (key3 _ (by simp; omega) n1 n2)
  have key1 : ∀ fl : Bool, (fl = true ↔ (97 ≤ (x.toNat : Int) ∧ (x.toNat : Int) ≤ 122)) → Ev (fun k => spec_EscapeAll.j1 k s (ints acc) (i : Int) (x.toNat : Int) fl) r := by
    intro fl hfl
    refine Ev.step (fun _ => spec_EscapeAll.j1.eq_2 ..) ?_
    by_cases hf : fl = true
    · exact Ev.if_pos hf (P (decide_eq_true (by have := hfl.1 hf; omega)))
    refine Ev.if_neg hf ?_
    have n1 : ¬ (97 ≤ (x.toNat : Int) ∧ (x.toNat : Int) ≤ 122) := fun hh => hf (hfl.2 hh)
    by_cases c : (x.toNat : Int) ≥ 65
    · exact Ev.if_pos c (key2 _ (by simp; omega) n1)
    · exact Ev.if_neg c (key2 _ (by simp; omega) n1)
  by_cases c : (x.toNat : Int) ≥ 97
  · exact Ev.if_pos c (key1 _ (by simp; omega))
  · exact Ev.if_neg c (key1 _ (by simp; omega))

theorem nums_ints (l : List UInt8) : strOfNums (ints l) = ⟨l.toArray⟩ := by
  unfold strOfNums ints
  apply data_ext
  simp
  induction l with
  | nil => rfl
  | cons a l ih => simpa using ih

theorem ev_from (s : ByteArray) (hs : s.size ≤ 5000) : ∀ (n i : Nat), i + n = s.size →
    Ev (fun k => spec_EscapeAll.l0 k s (ints (rest_URLPathEscapeAll.esc (s.data.toList.take i))) (i : Int)) ⟨(rest_URLPathEscapeAll.esc s.data.toList).toArray⟩
  | 0, i, hn => by
    refine Ev.step (fun _ => spec_EscapeAll.l0.eq_2 ..) ?_
    refine Ev.if_neg (by omega) ?_
    rw [nums_ints, List.take_of_length_le (by rw [size_data]; omega)]
    exact Ev.now _
  | n + 1, i, hn => by
    have hl := rest_URLPathEscapeAll.esc_len (s.data.toList.take i)
    have h2 : (s.data.toList.take i).length ≤ i := List.length_take_le _ _
    refine ev_step s i (by omega) _ (by omega) (by omega) _ ?_
    rw [← rest_URLPathEscapeAll.esc_snoc, ← rest_URLPathEscapeAll.take_snoc]
    exact ev_from s hs n (i + 1) (by omega)

theorem spec_is (s : ByteArray) (hs : s.size ≤ 5000) : ∃ k, spec_EscapeAll.f k s = some ⟨(rest_URLPathEscapeAll.esc s.data.toList).toArray⟩ :=
  Ev.rounds (by simpa [rest_URLPathEscapeAll.esc, ints, spec_EscapeAll.f] using ev_from s hs s.size 0 (by omega))

open Go.Proofs.Ytecfojgamdilnaa.PFnEscapeAll (rest_URLPathEscapeAll.esc rest_URLPathEscapeAll.one rest_URLPathEscapeAll.hex)
theorem parts (s : ByteArray) (j : Nat) (h : j < s.size) : rest_URLPathEscapeAll.esc s.data.toList = rest_URLPathEscapeAll.esc (s.data.toList.take j) ++ (rest_URLPathEscapeAll.one (s[j]'h) ++ rest_URLPathEscapeAll.esc (s.data.toList.drop (j + 1))) := by
  have e : s.data.toList = s.data.toList.take j ++ (s[j]'h :: s.data.toList.drop (j + 1)) := by
    rw [get_data, ← List.drop_eq_getElem_cons (by rw [size_data]; exact h), List.take_append_drop]
  conv => lhs; rw [e]
  simp [rest_URLPathEscapeAll.esc]

theorem at_plain (s E : ByteArray) (hE : E = ⟨(rest_URLPathEscapeAll.esc s.data.toList).toArray⟩) (j : Nat) (h : j < s.size) (hp : rest_URLPathEscapeAll.plain ((s[j]'h).toNat : Int) = true) :
    ∃ hlt : (rest_URLPathEscapeAll.esc (s.data.toList.take j)).length < E.size, E[(rest_URLPathEscapeAll.esc (s.data.toList.take j)).length]'hlt = s[j]'h ∧
      (rest_URLPathEscapeAll.esc (s.data.toList.take (j + 1))).length = (rest_URLPathEscapeAll.esc (s.data.toList.take j)).length + 1 := by
  have e1 : rest_URLPathEscapeAll.one (s[j]'h) = [s[j]'h] := by unfold rest_URLPathEscapeAll.one; rw [if_pos hp]
  have e2 := parts s j h
  rw [e1] at e2
  have hd : E.data.toList = rest_URLPathEscapeAll.esc (s.data.toList.take j) ++ ([s[j]'h] ++ rest_URLPathEscapeAll.esc (s.data.toList.drop (j + 1))) := by rw [hE]; simpa using e2
  have hs : E.size = E.data.toList.length := rfl
  refine ⟨by rw [hs, hd]; simp, ?_, ?_⟩
  · rw [get_data]; simp only [hd]; simp
  · rw [rest_URLPathEscapeAll.take_snoc s j h, rest_URLPathEscapeAll.esc_snoc, e1]; simp

theorem at_hex (s E : ByteArray) (hE : E = ⟨(rest_URLPathEscapeAll.esc s.data.toList).toArray⟩) (j : Nat) (h : j < s.size) (hp : ¬ rest_URLPathEscapeAll.plain ((s[j]'h).toNat : Int) = true) :
    ∃ hlt : (rest_URLPathEscapeAll.esc (s.data.toList.take j)).length < E.size, E[(rest_URLPathEscapeAll.esc (s.data.toList.take j)).length]'hlt = 37 ∧
      (rest_URLPathEscapeAll.esc (s.data.toList.take j)).length + 2 < E.size ∧
      E.extract ((rest_URLPathEscapeAll.esc (s.data.toList.take j)).length + 1) ((rest_URLPathEscapeAll.esc (s.data.toList.take j)).length + 3) = ⟨#[rest_URLPathEscapeAll.hex ((s[j]'h).toNat / 16), rest_URLPathEscapeAll.hex ((s[j]'h).toNat % 16)]⟩ ∧
      (rest_URLPathEscapeAll.esc (s.data.toList.take (j + 1))).length = (rest_URLPathEscapeAll.esc (s.data.toList.take j)).length + 3 := by
  have e1 : rest_URLPathEscapeAll.one (s[j]'h) = [37, rest_URLPathEscapeAll.hex ((s[j]'h).toNat / 16), rest_URLPathEscapeAll.hex ((s[j]'h).toNat % 16)] := by unfold rest_URLPathEscapeAll.one; rw [if_neg hp]
  have e2 := parts s j h
  rw [e1] at e2
  have hd : E.data.toList = rest_URLPathEscapeAll.esc (s.data.toList.take j) ++ ([37, rest_URLPathEscapeAll.hex ((s[j]'h).toNat / 16), rest_URLPathEscapeAll.hex ((s[j]'h).toNat % 16)] ++ rest_URLPathEscapeAll.esc (s.data.toList.drop (j + 1))) := by rw [hE]; simpa using e2
  have hs : E.size = E.data.toList.length := rfl
  refine ⟨by rw [hs, hd]; simp, ?_, by rw [hs, hd]; simp, ?_, ?_⟩
  · rw [get_data]; simp only [hd]; simp
  · apply data_ext
    rw [data_extract, hd, List.drop_append, List.drop_eq_nil_of_le (by omega)]
    simp
  · rw [rest_URLPathEscapeAll.take_snoc s j h, rest_URLPathEscapeAll.esc_snoc, e1]; simp
/-- What a hexadecimal digit is. -/
theorem hex_val : ∀ n : Fin 16, (n.val < 10 → ((rest_URLPathEscapeAll.hex n.val).toNat : Int) = 48 + n.val) ∧ (10 ≤ n.val → ((rest_URLPathEscapeAll.hex n.val).toNat : Int) = 55 + n.val) := by decide +kernel
end Go.Proofs.Ytecfojgamdilnaa.Esc
