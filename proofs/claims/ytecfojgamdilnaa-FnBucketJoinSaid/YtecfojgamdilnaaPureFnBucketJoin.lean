/- Two texts are joined by a slash, and not cleaned; with nothing they stay: for every two texts. -/
import Derived.Test.YtecfojgamdilnaaPFnBucketJoinx1
namespace Go.Proofs.Ytecfojgamdilnaa.Pure
open Go.RowKit Go.Proofs.Ytecfojgamdilnaa.PFnBucketJoin Go.Proofs.YtecfojgamdilnaaW.PrintWords Go.Proofs.YtecfojgamdilnaaW.PrintLast

theorem join_some (a b : ByteArray) (ha : a.size ≤ 140737488351232) (hb : b.size ≤ 140737488351232) : ∃ r, bucket_Join.f a b = some r := by
  unfold bucket_Join.f
  have h2 : (a ++ (⟨#[47]⟩ : ByteArray)).size = a.size + 1 := by rw [ByteArray.size_append]; rfl
  rw [if_pos (show a.size + 1 ≤ 9223372036854775807 by omega), if_pos (show (a ++ (⟨#[47]⟩ : ByteArray)).size + b.size ≤ 9223372036854775807 by omega)]
  split
  · exact ⟨_, rfl⟩
  · split <;> exact ⟨_, rfl⟩

theorem FnBucketJoin : laws_FnBucketJoin.Pure := by
  intro a0 a1 h0 h1
  obtain ⟨r, hr⟩ := join_some a0 a1 h0 h1
  have hs : spec_BucketJoin.f a0 a1 = some r := hr
  have hi : impl_BucketJoin.f a0 a1 = some r := by unfold impl_BucketJoin.f; rw [hr]; rfl
  have hab : impl_BucketJoin.f (⟨#[97]⟩ : ByteArray) (⟨#[98]⟩ : ByteArray) = some (⟨#[97, 47, 98]⟩ : ByteArray) := by decide +kernel
  have key : ∀ k x, ∃ b, laws_FnBucketJoin.j1 (k + 1) a0 a1 x = some b ∧ b = true := by
    intro k x
    refine ⟨true, ?_, rfl⟩
    simp only [laws_FnBucketJoin.j1, hi, hs, hab, Option.bind_some]
    split
    · rfl
    · decide +kernel
  have key0 : ∀ k x, laws_FnBucketJoin.j0 (k + 2) a0 a1 x = some true := by
    intro k x
    simp only [laws_FnBucketJoin.j0]
    split
    · rfl
    · split
      · obtain ⟨b, e, rfl⟩ := key k true; exact e
      · obtain ⟨b, e, rfl⟩ := key k (decide ((a1.size : Int) > 5000)); exact e
  refine ⟨2, ?_⟩
  unfold laws_FnBucketJoin.f
  split
  · exact key0 0 _
  · exact key0 0 _

end Go.Proofs.Ytecfojgamdilnaa.Pure
