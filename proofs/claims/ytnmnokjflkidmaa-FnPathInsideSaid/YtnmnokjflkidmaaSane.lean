import Derived.Test.YtnmnokjflkidmaaShelf
import Derived.WalkKit
import Derived.Lib.Hide
import Derived.Laws.OwnMore
import Derived.Test.YtnmnokjflkidmaaSeps
namespace Go.Proofs.Ytnmnokjflkidmaa.Sane
open Go.RowKit Go.Lib Go.Proofs.Ytnmnokjflkidmaa.Shelf
set_option linter.unusedVariables false
set_option linter.unusedSimpArgs false
def cleaned (s : ByteArray) : ByteArray := ⟨(Pa.cleanEls s.data.toList).toArray⟩

theorem sep_pays (w : World) : PredAt Try.prog 8 #[] encR isSep w := fun W r _ => by
  unfold FnGives
  by_cases h1 : r = 47
  · subst h1
    go_enter Try.func8, Try.ntmps8
    go_wp2
    go_ret
    exact ⟨by simp [isSep], 0, rfl⟩
  · by_cases h2 : r = 92
    · subst h2
      go_enter Try.func8, Try.ntmps8
      go_wp2
      go_ret
      exact ⟨by simp [isSep], 0, rfl⟩
    · have z1 : ((r : Int) == 47) = false := beq_eq_false_iff_ne.2 (by omega)
      have z2 : ((r : Int) == 92) = false := beq_eq_false_iff_ne.2 (by omega)
      have hb : isSep r = false := by simp [isSep, h1, h2]
      rw [hb]
      clear h1 h2 hb
      go_enter Try.func8, Try.ntmps8
      go_wp2
      go_ret
      exact ⟨rfl, 0, rfl⟩

theorem fields (s : ByteArray) (w : World) (hs : s.size ≤ 4294967296) :
    Calls Try.prog 10 #[.string s, .func (.func 8) #[] #[]] w fun e w' => ∃ A, e = .returned (.slice (some ⟨A, 0, none⟩) (Lib.goFieldsP isSep s).length (Lib.goFieldsP isSep s).length) ∧
      w'.ownsRow w.heap.size 9 1 (.slice (some ⟨A, 0, none⟩) (Lib.goFieldsP isSep s).length (Lib.goFieldsP isSep s).length) (Lib.goFieldsP isSep s).length ((Lib.goFieldsP isSep s).map Value.string) ∧ Below w.heap.size w w' :=
  (Try.strings_FieldsFunc 8 #[] (enters_of Try.func8 (by kernel_rfl) rfl) isSep s w hs (sep_pays w)).mono fun e w' ⟨A, he, _, ho, hb⟩ => ⟨A, he, ho, hb⟩

theorem contains_any (A B n c : Nat) (zs : List ByteArray) (x : ByteArray) (w : World) (hn : n = zs.length) (hbig : n ≤ 4294967297) (ho : w.ownsRow B 9 1 (.slice (some ⟨A, 0, none⟩) n c) n (zs.map Value.string)) :
    Calls Try.prog 9 #[.slice (some ⟨A, 0, none⟩) n c, .string x] w fun e w' => e = .returned (.bool (Lib.containsS zs x)) ∧ w' = w := by
  have h := Try.slices_Contains_string A 0 n c zs x w (by omega) (by omega) (fun j hj => by
    rw [Nat.zero_add, ho.cellAt j (by omega), List.getElem?_map, List.getElem?_eq_getElem hj]
    simp [List.getD_eq_getElem?_getD, List.getElem?_eq_getElem hj])
  rw [List.take_of_length_le (by omega)] at h
  exact h
theorem contains_yes (s : ByteArray) (A B : Nat) (w : World) (hs : s.size ≤ 4294967296) (hd : dotDot s = true) (ho : w.ownsRow B 9 1 (.slice (some ⟨A, 0, none⟩) (Lib.goFieldsP isSep s).length (Lib.goFieldsP isSep s).length) (Lib.goFieldsP isSep s).length ((Lib.goFieldsP isSep s).map Value.string)) :
    Calls Try.prog 9 #[.slice (some ⟨A, 0, none⟩) (Lib.goFieldsP isSep s).length (Lib.goFieldsP isSep s).length, .string (⟨#[46, 46]⟩ : ByteArray)] w fun e w' => e = .returned (.bool true) ∧ w' = w := by
  have h := contains_any A B _ (Lib.goFieldsP isSep s).length (Lib.goFieldsP isSep s) ⟨#[46, 46]⟩ w rfl (by have := fields_len s; omega) ho
  rw [show Lib.containsS (Lib.goFieldsP isSep s) (⟨#[46, 46]⟩ : ByteArray) = true from hd] at h
  exact h
theorem contains_no (s : ByteArray) (A B : Nat) (w : World) (hs : s.size ≤ 4294967296) (hd : dotDot s = false) (ho : w.ownsRow B 9 1 (.slice (some ⟨A, 0, none⟩) (Lib.goFieldsP isSep s).length (Lib.goFieldsP isSep s).length) (Lib.goFieldsP isSep s).length ((Lib.goFieldsP isSep s).map Value.string)) :
    Calls Try.prog 9 #[.slice (some ⟨A, 0, none⟩) (Lib.goFieldsP isSep s).length (Lib.goFieldsP isSep s).length, .string (⟨#[46, 46]⟩ : ByteArray)] w fun e w' => e = .returned (.bool false) ∧ w' = w := by
  have h := contains_any A B _ (Lib.goFieldsP isSep s).length (Lib.goFieldsP isSep s) ⟨#[46, 46]⟩ w rfl (by have := fields_len s; omega) ho
  rw [show Lib.containsS (Lib.goFieldsP isSep s) (⟨#[46, 46]⟩ : ByteArray) = false from hd] at h
  exact h
theorem clean_is (s : ByteArray) (w : World) (hs : s.size ≤ 4294967296) :
    Calls Try.prog 13 #[.string s] w fun e w' => e = .returned (.string (cleaned s)) ∧ Below w.heap.size w w' := Try.path_Clean_rules s w (by omega)
end Go.Proofs.Ytnmnokjflkidmaa.Sane
