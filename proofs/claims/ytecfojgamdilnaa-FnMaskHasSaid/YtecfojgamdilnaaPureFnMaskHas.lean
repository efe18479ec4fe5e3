/- A mask has a single bit just if it is one of its bits: for every mask and every bit. -/
import Derived.Test.YtecfojgamdilnaaPFnMaskHasx1
import Derived.OpenShut
namespace Go.Proofs.Ytecfojgamdilnaa.Pure
open Go.RowKit Go.Proofs.Ytecfojgamdilnaa.PFnMaskHas Go.Proofs.YtecfojgamdilnaaW.PrintWords Go.Proofs.YtecfojgamdilnaaW.PrintLast Go.Proofs.YtecfojgamdilnaaW.PrintMore

theorem one_bit : ∀ j : Fin 64, (Go.bits .and .u64 (shl .u64 1 (j.val : Int)) (shl .u64 1 (j.val : Int)) != 0) = true := by
  decide +kernel

theorem FnMaskHas : laws_FnMaskHas.Pure := by
  intro a0 a1 h0 h1
  unfold laws_FnMaskHas.f impl_MaskHas.f encoder_MultiEncoder_Has.f
  have hb := bounds_u8 h1
  have e : a1.tmod 64 = a1 % 64 := Int.tmod_eq_emod_of_nonneg hb.1
  rw [e]
  have hj : (a1 % 64) = (((⟨(a1 % 64).toNat, by omega⟩ : Fin 64).val : Nat) : Int) := by simp; omega
  have hk := one_bit ⟨(a1 % 64).toNat, by omega⟩
  rw [← hj] at hk
  rw [if_pos (by omega)]
  simp only [Option.bind_some, beq_self_eq_true, if_true, hk]

end Go.Proofs.Ytecfojgamdilnaa.Pure
