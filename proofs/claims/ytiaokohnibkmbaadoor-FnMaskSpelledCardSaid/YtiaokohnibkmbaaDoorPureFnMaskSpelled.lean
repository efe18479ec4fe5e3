import Derived.Test.YtiaokohnibkmbaaDoorMlw
import Derived.Test.YtiaokohnibkmbaaDoorRowing
import Derived.OpenShut
namespace Go.Proofs.YtiaokohnibkmbaaDoor.Pure
open Go Go.RowKit Go.ChangeShapes Go.WideShapes Go.Proofs.YtiaokohnibkmbaaDoorW.PrintWords Go.Proofs.YtiaokohnibkmbaaDoorW.PrintLast
set_option linter.unusedVariables false
set_option linter.unusedSimpArgs false
/-! ### a slice of bytes, its elements' bounds kept -/
def u8b : Kd Int where
  sz := 1
  E := []
  K := fun _ x cs => cs = [.int .u8 x] ∧ 0 ≤ x ∧ x < 256
  M := fun _ _ _ x cs => cs = [.int .u8 x] ∧ 0 ≤ x ∧ x < 256
  K_len := fun h => by rw [h.1]; rfl
  K_one := fun h u hu => by
    rw [h.1] at hu
    rw [List.mem_singleton.1 hu]
    rfl
  K_below := fun _ h => h
  K_of_M := fun h => h
  M_mono := fun _ h => h
  M_bound := fun h => h
  M_move := fun _ h => h
  M_lower := fun _ h => h
theorem el_u8b {H : Type} {enc : TypeId × Value → H} {P : Program} {w : World} {base : Nat} {spare : Nat → Bool} {held : Bool} {e : TypeId} (he : P.underlying e = some (.int .u8)) (n : Nat) (cs : List Value) (y : DataW H × List MemPlace) (h : DataW.trod enc P w base spare held n e cs = some y) (_ : cs.length = u8b.sz) : ∃ x, u8b.K w x cs := by
  obtain ⟨b, rfl, _, hw⟩ := DataW.trod_int he h
  exact ⟨b, rfl, by have := bounds_u8 hw; omega, by have := bounds_u8 hw; omega⟩
theorem u8b_int {w : World} {A : Option Addr} {l : List Int} (h : u8b.C w A l.length l) : (Kd.int .u8).C w A l.length l := Kd.C_imp (d := u8b) (d' := Kd.int .u8) rfl (fun _ _ _ hk => hk.1) h
theorem u8b_in {w : World} {A : Option Addr} {l : List Int} (h : u8b.C w A l.length l) (i : Nat) (h1 : i < l.length) : 0 ≤ l[i] ∧ l[i] < 256 := by
  obtain ⟨_, c, _, _, hk, _⟩ := Kd.C_get h 0 (i : Int) (by omega) (by omega)
  have := hk.2
  rwa [Int.toNat_natCast, List.getD_eq_getElem?_getD, List.getElem?_eq_getElem h1] at this
theorem FnMaskSpelled_walk (a0 : Int) (A1 : Option Addr) (c1 : Nat) (l1 : List Int) (A2 : Option Addr) (c2 : Nat) (l2 : List Int) (w : World) (hr1 : u8b.C w A1 l1.length l1) (hr2 : u8b.C w A2 l2.length l2) (hg : Mset.Glob w) :
    Calls Tryd.prog 5 #[.int .u64 a0, .slice A1 l1.length c1, .slice A2 l2.length c2] w fun e w' => e = .returned (.bool true) ∧ Below w.heap.size w w' :=
  Mset.law_any a0 A1 c1 l1 A2 c2 l2 w hg (u8b_int hr1) (fun i h => u8b_in hr1 i h) (u8b_int hr2) (fun i h => u8b_in hr2 i h)
end Go.Proofs.YtiaokohnibkmbaaDoor.Pure
