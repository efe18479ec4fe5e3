import Derived.Test.YtbennnoddflggaaDoorApart
namespace Go.Proofs.YtbennnoddflggaaDoor.Buck
open Go.RowKit Go.Proofs.YtbennnoddflggaaDoor.PFnBucketApart Go.Proofs.YtbennnoddflggaaDoorW.PrintWords Go.Proofs.YtbennnoddflggaaDoorW.PrintMore Go.Proofs.YtbennnoddflggaaDoorW.PrintLast
set_option linter.unusedVariables false
set_option maxHeartbeats 1000000 in
/-- THE LAW OF ONE BUCKET AMONG ALL. -/
theorem apart_walk (A : Option Addr) (c : Nat) (l0 : List S28) (nm : ByteArray) (w : World) (hn : l0.length ≤ 9223372036854775807) (hr : Kd.C k28 w A l0.length l0) (hc : l0.length ≤ c) (hglob : Glob w) :
    Calls Tryd.prog 3 #[.slice A l0.length c, .string nm] w fun e w' => e = .returned (.bool true) ∧ Below w.heap.size w w' := by
  obtain ⟨k1, r1, h1⟩ := fits_some l0 hn
  obtain ⟨k2, r2, h2, h3⟩ := in_some l0 hn
  have HG := Lib.hid hglob
  cases r1 with
  | false =>
    have H1 := Lib.hid h1
    have HR := Lib.hid hr
    have HC := Lib.hid hc
    clear h1 h2 h3 hr hc hglob hn
    by_cases hnm : nm.size ≤ 2147483647
    · have g0 : decide ((2147483647 : Int) < (nm.size : Int)) = false := decide_eq_false (by omega)
      go_enter Tryd.func3, Tryd.ntmps3
      go_wp2_with (go_at_call 5; (with_reducible refine (laws_zzFits1.calls k1 A c l0 false _ HR.out HC.out H1.out).mono ?_); rintro e w1 ⟨rfl, hb1⟩)
      go_ret
      exact ⟨rfl, hb1⟩
    · have g0 : decide ((2147483647 : Int) < (nm.size : Int)) = true := decide_eq_true (by omega)
      go_enter Tryd.func3, Tryd.ntmps3
      go_wp2_with (go_at_call 5; (with_reducible refine (laws_zzFits1.calls k1 A c l0 false _ HR.out HC.out H1.out).mono ?_); rintro e w1 ⟨rfl, hb1⟩)
      go_ret
      exact ⟨rfl, hb1⟩
  | true =>
    by_cases hnm : nm.size ≤ 2147483647
    · have g0 : decide ((2147483647 : Int) < (nm.size : Int)) = false := decide_eq_false (by omega)
      cases r2 with
      | false =>
        have H1 := Lib.hid h1
        have H2 := Lib.hid h2
        have HR := Lib.hid hr
        have HC := Lib.hid hc
        clear h1 h2 h3 hr hc hglob hn
        go_enter Tryd.func3, Tryd.ntmps3
        go_wp2_with (first | (go_at_call 5; (with_reducible refine (laws_zzFits1.calls k1 A c l0 true _ HR.out HC.out H1.out).mono ?_); rintro e w1 ⟨rfl, hb1⟩; have HB1 := Lib.hid hb1; clear hb1) | (go_at_call 6; (with_reducible refine (laws_bucketIn.calls k2 A c l0 false _ (Kd.C_below HR.out HB1.out) HC.out H2.out).mono ?_); rintro e w2 ⟨rfl, hb2⟩; have HB2 := Lib.hid (HB1.out.trans (hb2.mono HB1.out.size)); clear hb2))
        go_ret
        exact ⟨rfl, HB2.out⟩
      | true =>
        obtain ⟨h4, h5⟩ := h3 rfl
        exact apart_walk1 A c l0 nm w h4 h5 hr hc hnm hglob k1 k2 h1 h2
    · have g0 : decide ((2147483647 : Int) < (nm.size : Int)) = true := decide_eq_true (by omega)
      have H1 := Lib.hid h1
      have H2 := Lib.hid h2
      have HR := Lib.hid hr
      have HC := Lib.hid hc
      clear h1 h2 h3 hr hc hglob hn
      go_enter Tryd.func3, Tryd.ntmps3
      go_wp2_with (go_at_call 5; (with_reducible refine (laws_zzFits1.calls k1 A c l0 true _ HR.out HC.out H1.out).mono ?_); rintro e w1 ⟨rfl, hb1⟩)
      go_ret
      exact ⟨rfl, hb1⟩
end Go.Proofs.YtbennnoddflggaaDoor.Buck
