import Derived.Test.YtiaokohnibkmbaaDoorSop
import Derived.Lib.FrozenHead
import Derived.Lib.ConvBytes
import Derived.Laws.BytesArg
import Derived.Laws.BytesString
import Derived.Lib.BufferRead
namespace Go.Proofs.YtiaokohnibkmbaaDoor.Sym
open Go Go.RowKit Go.Proofs.YtiaokohnibkmbaaDoorW.PrintWords Go.Proofs.YtiaokohnibkmbaaDoorW.PrintLast Go.Proofs.YtiaokohnibkmbaaDoorW.PrintMore
set_option linter.unusedVariables false
set_option linter.unusedSimpArgs false
/-! ### a row of bytes that grows, made by a conversion or by nothing -/
theorem storeCells_at (P : Program) (g o : Nat) (t : TypeId) (fz : Nat × Nat) : ∀ (vs : List Value) (i : Nat) (cur : Array Value) (w : World), w.heap[g]? = some (.cells cur t fz) → (∀ k, k < cur.size → ¬ (fz.1 ≤ k ∧ k < fz.2)) → o + i + vs.length ≤ cur.size → (∀ v ∈ vs, v.oneCell' = true) →
    (storeCells ⟨g, o, none⟩ vs i).run P w = .ok () (w.setRow g (cur.toList.take (o + i) ++ vs ++ cur.toList.drop (o + i + vs.length)).toArray)
  | [], i, cur, w, hg, _, _, _ => by
    simp only [storeCells, List.append_nil, List.length_nil, Nat.add_zero, List.take_append_drop, Array.toArray_toList]
    rw [setRow_self w g cur t fz hg]
    rfl
  | v :: rest, i, cur, w, hg, hfz, hl, h1 => by
    have hi : o + i < cur.size := by simp at hl; omega
    have hadd : (⟨g, o, none⟩ : Addr).add i = ⟨g, o + i, none⟩ := by unfold Addr.add; split <;> simp_all
    have hcell : w.cell? ⟨g, o + i, none⟩ = some cur[o + i] := by simp [World.cell?, hg, hi]
    have hfro : w.frozen? ⟨g, o + i, none⟩ = false := by
      have := hfz (o + i) hi
      obtain ⟨lo, hi'⟩ := fz
      simp only [World.frozen?, hg, Bool.and_eq_false_iff, decide_eq_false_iff_not]
      simp only at this
      omega
    have hst : (store ((⟨g, o, none⟩ : Addr).add i) v).run P w = .ok () (w.setRow g (cur.setIfInBounds (o + i) v)) := by
      rw [hadd, run_store P w _ v _ (h1 v (by simp)), hcell]
      simp [hfro, setCell_eq_setRow w g (o + i) cur t fz v hg]
    have ih := storeCells_at P g o t fz rest (i + 1) (cur.setIfInBounds (o + i) v) (w.setRow g (cur.setIfInBounds (o + i) v)) (setRow_heap w g cur _ t _ hg) (by simpa using hfz) (by simp at hl ⊢; omega) (fun x hx => h1 x (by simp [hx]))
    simp only [storeCells, Sem.run_bind, hst, Result.andThen_ok, ih, setRow_setRow]
    congr 3
    have e := list_seg_step cur.toList (o + i) v rest (by simp at hl ⊢; omega)
    simpa [Array.toList_setIfInBounds, Nat.add_assoc] using e
/-- The bytes as cells. -/
def bc (xs : List UInt8) : List Value := xs.map fun b => Value.int .u8 b.toNat
theorem bc_length (xs : List UInt8) : (bc xs).length = xs.length := by simp [bc]
theorem bc_app (xs ys : List UInt8) : bc (xs ++ ys) = bc xs ++ bc ys := by simp [bc]
theorem bc_str (s : ByteArray) : Lib.strCells s = bc s.data.toList := rfl
/-- A value that is a row of bytes of one's own. -/
def OB (w : World) (base : Nat) (v : Value) (xs : List UInt8) : Prop :=
  (v = .slice none 0 0 ∧ xs = []) ∨
    ∃ g cap cur fz, v = .slice (some ⟨g, 0, none⟩) xs.length cap ∧ base ≤ g ∧ w.heap[g]? = some (.cells cur 5 fz) ∧ (∀ k, k < cur.size → ¬ (fz.1 ≤ k ∧ k < fz.2)) ∧ xs.length ≤ cap ∧ cap ≤ maxLen ∧ cur.size = cap ∧ cur.toList.take xs.length = bc xs
theorem OB.base {w : World} {base : Nat} {v : Value} {xs : List UInt8} (h : OB w base v xs) : ∀ k, v.ownBlock = some k → base ≤ k := fun k hk => by
  rcases h with ⟨rfl, _⟩ | ⟨g, cap, cur, fz, rfl, hb, _⟩
  · simp [Value.ownBlock] at hk
  · simp [Value.ownBlock] at hk; omega
theorem OB.move {w w' : World} {base : Nat} {v : Value} {xs : List UInt8} (h : OB w base v xs) (hm : ∀ k, k < w.heap.size → w'.heap[k]? = w.heap[k]?) : OB w' base v xs := by
  rcases h with ⟨rfl, e⟩ | ⟨g, cap, cur, fz, rfl, hb, hg, r⟩
  · exact .inl ⟨rfl, e⟩
  · exact .inr ⟨g, cap, cur, fz, rfl, hb, (hm g (Array.getElem?_eq_some_iff.1 hg).1).trans hg, r⟩
theorem OB.below {w w' : World} {base : Nat} {v : Value} {xs : List UInt8} (h : OB w base v xs) (hb : Below w.heap.size w w') : OB w' base v xs := h.move fun k hk => hb.block k hk
theorem run_app_str {P : Program} (w : World) (base : Nat) (t u ty : TypeId) (i : TypeInfo) (ht : P.underlying t = some (.slice 5)) (hu : P.underlying u = some .string) (hi : P.info? 5 = some i) (hz : i.zero = some (.int .u8 0)) (hsize : i.size = 1) (hby : i.bytes = 1)
    {v : Value} {xs : List UInt8} (h : OB w base v xs) (s : ByteArray) (hl : xs.length + s.size ≤ 140737488355328) (hbase : base ≤ w.heap.size) :
    ∃ v' w', (Builtin.append_ #[t, u] ty #[v, .string s]).run P w = .ok v' w' ∧ OB w' base v' (xs ++ s.data.toList) ∧ w.grownBy w' v.ownBlock := by
  have hd : s.data.toList.length = s.size := rfl
  have h63 : xs.length + s.size ≤ maxLen := by simp only [maxLen]; omega
  rcases h with ⟨rfl, rfl⟩ | ⟨g, cap, cur, fz, rfl, hb, hg, hfz, hn, hcm, hcs, htake⟩
  · obtain ⟨v', w', h1, h2, h3, _⟩ := Lib.run_append_own_string (P := P) w base t u ty 5 i ht hu hi hz hsize hby (.slice none 0 0) 0 [] (World.ownsRow_nil w base 5 1) s (by simp only [List.length_nil] at h63; exact h63) (by simp only [List.length_nil] at hl; exact hl) hbase
    refine ⟨v', w', h1, ?_, h3⟩
    rcases h2.2 with ⟨rfl, h0⟩ | ⟨g, cap, cur, rfl, hb, hg, hn, hcm, hcs, htake⟩
    · refine .inl ⟨rfl, ?_⟩
      rw [List.nil_append]
      exact List.eq_nil_of_length_eq_zero (by rw [hd]; omega)
    · refine .inr ⟨g, cap, cur, (0, 0), by rw [List.nil_append, hd, Nat.zero_add], hb, hg, fun k _ => by omega, by rw [List.nil_append, hd]; omega, hcm, by omega, ?_⟩
      rw [List.nil_append, hd, ← bc_str]
      simpa using htake
  · have hlen : (xs ++ s.data.toList).length = xs.length + s.size := by rw [List.length_append, hd]
    by_cases hroom : xs.length + s.size ≤ cap
    · have hf := Lib.run_firstCells_string (P := P) w 1 s
      have hst := storeCells_at P g xs.length 5 fz (Lib.strCells s) 0 cur w hg hfz (by rw [bc_str, bc_length, hd]; omega) (Lib.strCells_oneCell s)
      simp only [Nat.add_zero, Lib.strCells_length] at hst
      refine ⟨_, _, ?_, .inr ⟨g, cap, (cur.toList.take xs.length ++ Lib.strCells s ++ cur.toList.drop (xs.length + s.size)).toArray, fz, by rw [hlen], hb, setRow_heap w g cur _ 5 _ hg, ?_, by rw [hlen]; exact hroom, hcm, ?_, ?_⟩, ⟨rfl, rfl, rfl, by simp, fun k _ hk => setRow_other w g k _ (fun e => hk (by simp [Value.ownBlock, e]))⟩⟩
      · simp [Builtin.append_, run_underlying ht, run_underlying hu, sizeOf, typeInfo, hi, hsize, Builtin.lenOf, hroom, hf, Addr.add_lit, hst]
      · intro k hk
        refine hfz k ?_
        simp only [List.size_toArray, List.length_append, List.length_take, List.length_drop, Array.length_toList, Lib.strCells_length] at hk
        omega
      · simp only [List.size_toArray, List.length_append, List.length_take, List.length_drop, Array.length_toList, Lib.strCells_length]
        omega
      · rw [htake, bc_str, ← bc_app, ← bc_length]
        exact List.take_left
    · have holds : ∀ j u, (bc xs)[j]? = some u → w.cell? ((⟨g, 0, none⟩ : Addr).add j) = some u := by
        intro j u hu
        have hadd : (⟨g, 0, none⟩ : Addr).add j = ⟨g, j, none⟩ := by unfold Addr.add; split <;> simp_all
        rw [hadd, cell_of_row w g j cur 5 fz hg]
        rw [← htake, List.getElem?_take] at hu
        split at hu
        · simpa using hu
        · cases hu
      have hr := Lib.run_append_grow_string (P := P) w t u ty 5 i (.int .u8 0) ht hu hi hz ⟨g, 0, none⟩ xs.length cap (bc xs) (by rw [hsize, bc_length, Nat.mul_one]) holds s (by omega) (by omega) (by rw [hby]; exact growslice_fits (by omega) (by omega))
      have hge := grownCap_ge w (xs.length + s.size) cap 5
      have hcm2 : grownCap w (xs.length + s.size) cap 5 ≤ maxLen := grownCap_le_maxLen w (xs.length + s.size) cap 5 h63
      refine ⟨_, _, hr, .inr ⟨w.heap.size, _, _, (0, 0), by rw [hlen], hbase, heap_alloc_new w.drew _, fun k _ => by omega, by rw [hlen]; exact hge, hcm2, ?_, ?_⟩, ⟨rfl, rfl, rfl, by simp, fun k hk _ => heap_alloc_old w.drew _ hk⟩⟩
      · have hz1 : (Value.int IntKind.u8 0).cells.size = 1 := rfl
        simp only [Array.size_append, List.size_toArray, size_zeroCells, hz1, bc_length, Lib.strCells_length]
        omega
      · simp only [Array.toList_append, List.append_assoc]
        rw [← List.append_assoc, bc_str, ← bc_app, ← bc_length]
        exact List.take_left
/-- What a conversion makes. -/
theorem OB.conv (w : World) (s : ByteArray) (hs : s.size ≤ maxLen) : OB (Lib.bytesWorld w 5 s) w.heap.size (.slice (some ⟨w.heap.size, 0, none⟩) s.size (grownCap w s.size 0 5)) s.data.toList ∧ Below w.heap.size w (Lib.bytesWorld w 5 s) := by
  have hge := grownCap_ge w s.size 0 5
  have hcm := grownCap_le_maxLen w s.size 0 5 hs
  have hsz : (Lib.bytesCells w 5 s).size = grownCap w s.size 0 5 := by
    have hd : s.data.size = s.size := rfl
    simp only [Lib.bytesCells, Array.size_append, Array.size_map, Array.size_replicate, hd]; omega
  have hd : s.data.toList.length = s.size := rfl
  refine ⟨.inr ⟨w.heap.size, _, Lib.bytesCells w 5 s, _, by rw [hd], Nat.le_refl _, Lib.bytesWorld_at_new w 5 s, fun k hk => by simp only; omega, by rw [hd]; exact hge, hcm, hsz, ?_⟩, ?_⟩
  · have e : (Lib.bytesCells w 5 s).toList = bc s.data.toList ++ List.replicate (grownCap w s.size 0 5 - s.size) (.int .u8 0) := by simp [Lib.bytesCells, bc]
    rw [e, ← bc_length]
    exact List.take_left
  · exact ⟨rfl, rfl, rfl, by rw [Lib.bytesWorld_size]; omega, fun k hk => Lib.bytesWorld_at_old w 5 s k hk⟩
/-- What such a row is as a text. -/
theorem run_text {P : Program} (w : World) {base : Nat} {v : Value} {xs : List UInt8} (h : OB w base v xs) (src dst : TypeId) (hs : P.underlying src = some (.slice 5)) (he : P.underlying 5 = some (.int .u8)) (hd : P.underlying dst = some .string) :
    (convert src dst v).run P w = .ok (.string ⟨xs.toArray⟩) w := by
  rcases h with ⟨rfl, rfl⟩ | ⟨g, cap, cur, fz, rfl, hb, hg, hfz, hn, hcm, hcs, htake⟩
  · exact Lib.run_convert_nil_bytes w src dst 5 0 hs he hd
  · have hr := run_convert_bytes_arg (P := P) w src 5 hs he g 0 xs.length cap (xs.map fun b => (b.toNat : Int)) (by simp) (fun i hi => by
      rw [Nat.zero_add, cell_of_row w g i cur 5 fz hg]
      have h1 : (cur.toList.take xs.length)[i]? = (bc xs)[i]? := by rw [htake]
      rw [List.getElem?_take, if_pos hi] at h1
      rw [← Array.getElem?_toList, h1]
      simp [bc, List.getD, hi]) dst hd
    rw [hr]
    congr 2
    apply ByteArray.ext
    apply Array.ext'
    simp only [strOfNums, List.map_map]
    rw [show ((fun n : Int => UInt8.ofNat n.toNat) ∘ fun b : UInt8 => (b.toNat : Int)) = id from by funext b; simp]
    simp
end Go.Proofs.YtiaokohnibkmbaaDoor.Sym
