import Derived.Test.YtiaokohnibkmbaaDoorMask
namespace Go.Proofs.YtiaokohnibkmbaaDoor.Texts
open Go.RowKit Go.Proofs.YtiaokohnibkmbaaDoor.PFnMaskOne Go.Proofs.YtiaokohnibkmbaaDoor.Fmt Go.Proofs.YtiaokohnibkmbaaDoorW.PrintWords Go.Proofs.YtiaokohnibkmbaaDoorW.PrintMore
set_option linter.unusedVariables false
set_option linter.unusedSimpArgs false
theorem maskText (m : Int) (w : World) (h : w.cell? ⟨10, 15, none⟩ = some (.int .u8 4)) :
    Calls Tryd.prog 6 #[.int .u64 m] w fun e w' => e = .returned (.string (text m)) ∧ Below w.heap.size w w' := by
  go_enter Tryd.func6, Tryd.ntmps6
  go_wp2_with (go_at_call 12; (with_reducible refine (string_any m w h).mono ?_); rintro e w1 ⟨rfl, hb⟩; have HB := Lib.hid hb; clear hb)
  go_ret
  exact ⟨rfl, HB.out⟩
theorem maskText_in (W : World) (h : W.cell? ⟨10, 15, none⟩ = some (.int .u8 4)) (hl : 10 < W.heap.size) (m : Int) (w : World) (hb : Below W.heap.size W w) :
    Calls Tryd.prog 6 #[.int .u64 m] w fun e w' => e = .returned (.string (text m)) ∧ Below W.heap.size W w' :=
  (maskText m w ((hb.cell (p := ⟨10, 15, none⟩) hl).trans h)).mono fun e w' hh => ⟨hh.1, hb.trans (hh.2.mono hb.size)⟩
def Done (w : World) (e : Ending) (w' : World) : Prop := e = .returned (.bool true) ∧ Below w.heap.size w w'
set_option maxHeartbeats 2000000 in
theorem law_any (T : Int → ByteArray) (a b : Int) (w : World) (hT : ∀ (m : Int) (w1 : World), Below w.heap.size w w1 → Calls Tryd.prog 6 #[.int .u64 m] w1 fun e w' => e = .returned (.string (T m)) ∧ Below w.heap.size w w')
    (hab : ((T a).toList == (T b).toList) = (a == b)) (hdot : ((T 33554432).toList == [68, 111, 116]) = true) :
    Calls Tryd.prog 3 #[.int .u64 a, .int .u64 b] w (Done w) := by
  have HT := Lib.hid hT
  clear hT
  go_enter Tryd.func3, Tryd.ntmps3
  go_wp2_with (go_at_call 6; first | ((with_reducible refine (HT.out _ w (Below.refl _ _)).mono ?_); rintro e w1 ⟨rfl, hb1⟩; have HB1 := Lib.hid hb1; clear hb1) | ((with_reducible refine (HT.out _ _ HB1.out).mono ?_); rintro e w2 ⟨rfl, hb2⟩; have HB2 := Lib.hid hb2; clear hb2) | ((with_reducible refine (HT.out _ _ HB2.out).mono ?_); rintro e w3 ⟨rfl, hb3⟩; have HB3 := Lib.hid hb3; clear hb3))
  go_ret
  exact ⟨rfl, HB3.out⟩
theorem toList_inj {a b : ByteArray} (h : a.toList = b.toList) : a = b := by
  rw [Lib.toList_data, Lib.toList_data] at h
  exact ByteArray.ext (Array.ext' h)
/-- The law, walked. -/
theorem law_walk (a b : Int) (w : World) (ha : 0 ≤ a ∧ a < 18446744073709551616) (hb : 0 ≤ b ∧ b < 18446744073709551616) (h : w.cell? ⟨10, 15, none⟩ = some (.int .u8 4)) :
    Calls Tryd.prog 3 #[.int .u64 a, .int .u64 b] w (Done w) :=
  law_any text a b w (maskText_in w h (World.block_lt_of_cell? w _ h)) (by
    rw [Bool.eq_iff_iff]
    simp only [beq_iff_eq]
    constructor
    · intro hh
      obtain ⟨n, rfl⟩ := Int.eq_ofNat_of_zero_le ha.1
      obtain ⟨k, rfl⟩ := Int.eq_ofNat_of_zero_le hb.1
      rw [text_inj n k (by omega) (by omega) (toList_inj hh)]
    · rintro rfl; rfl) (by rw [dot_is, Lib.toList_data]; rfl)
end Go.Proofs.YtiaokohnibkmbaaDoor.Texts
