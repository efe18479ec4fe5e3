import Derived.Test.YtiaokohnibkmbaaDoorMset
import Derived.Test.YtiaokohnibkmbaaDoorPFnMaskSpelledx1
namespace Go.Proofs.YtiaokohnibkmbaaDoor.Mset
open Go Go.RowKit Go.Proofs.YtiaokohnibkmbaaDoor.Fr
open Go.Proofs.YtiaokohnibkmbaaDoor.PFnMaskSpelled (S35 k35 rd_T35 z35 k35_open)
open Go.Proofs.YtiaokohnibkmbaaDoor.Sym Go.Proofs.YtiaokohnibkmbaaDoorW.PrintWords Go.Proofs.YtiaokohnibkmbaaDoorW.PrintLast Go.Proofs.YtiaokohnibkmbaaDoorW.PrintMore
set_option linter.unusedVariables false
set_option linter.unusedSimpArgs false
/-! ### what the law's own operations yield -/
section
variable {w : World} {l : Slots} {x y z : Operand} {d : Option Tmp} {t2 ty : TypeId} {pos : String} {aft : Array Edge} {g : Option (Nat × Bool)}
theorem x_el31 {ad : Addr} {n c k : Nat} (hx : ev l x = some (.slice (some ad) n c)) (hy : ev l y = some (.int .i64 (k : Int))) (hk : k < n) :
    Ex Tryd.prog l w { dst := d, op := .indexAddr 31 x y, type := ty, pos := pos, after := aft, guard := g } (.pointer (some (ad.add k))) w := by
  obtain ⟨i, hi, hs⟩ : ∃ i, Tryd.prog.info? 5 = some i ∧ i.size = 1 := by
    have hinf : (Tryd.prog.info? 5).map (fun i => i.size) = some 1 := by kernel_rfl
    cases e : Tryd.prog.info? 5 with
    | none => rw [e] at hinf; cases hinf
    | some i => rw [e] at hinf; exact ⟨i, rfl, Option.some.inj hinf⟩
  have := x_elem (P := Tryd.prog) (w := w) (d := d) (ty := ty) (pos := pos) (aft := aft) (g := g) Tryd.underlying31 hi hs hx hy (by omega) (by omega)
  rwa [Int.toNat_natCast, Nat.mul_one] at this
theorem x_el32 {ad : Addr} {n c k : Nat} (hx : ev l x = some (.slice (some ad) n c)) (hy : ev l y = some (.int .i64 (k : Int))) (hk : k < n) :
    Ex Tryd.prog l w { dst := d, op := .indexAddr 32 x y, type := ty, pos := pos, after := aft, guard := g } (.pointer (some (ad.add (k * 2)))) w := by
  obtain ⟨i, hi, hs⟩ : ∃ i, Tryd.prog.info? 35 = some i ∧ i.size = 2 := by
    have hinf : (Tryd.prog.info? 35).map (fun i => i.size) = some 2 := by kernel_rfl
    cases e : Tryd.prog.info? 35 with
    | none => rw [e] at hinf; cases hinf
    | some i => rw [e] at hinf; exact ⟨i, rfl, Option.some.inj hinf⟩
  have := x_elem (P := Tryd.prog) (w := w) (d := d) (ty := ty) (pos := pos) (aft := aft) (g := g) Tryd.underlying32 hi hs hx hy (by omega) (by omega)
  rwa [Int.toNat_natCast] at this
theorem x_conv53 {n : Nat} (hx : ev l x = some (.int .u8 (n : Int))) (hn : n < 256) :
    Ex Tryd.prog l w { dst := d, op := .convert 5 3 x, type := ty, pos := pos, after := aft, guard := g } (.int .i64 (n : Int)) w := fun N a h => by
  simp only [execOp, h.ev hx]
  have h5 := Tryd.underlying5
  have h3 := Tryd.underlying3
  have hw : IntKind.i64.wrap (n : Int) = n := by rw [IntKind.wrap_i64]; omega
  simp [go_sem, h5, h3, hw]
theorem x_remi {k : IntKind} {t : TypeId} {m n r : Int} (ht : Tryd.prog.underlying t = some (.int k)) (hx : ev l x = some (.int k m)) (hy : ev l y = some (.int k n)) (hn : n ≠ 0) (hr : Int.tmod m n = r) :
    Ex Tryd.prog l w { dst := d, op := .binOp .rem t x y t2, type := ty, pos := pos, after := aft, guard := g } (.int k r) w := fun N a h => by
  simp only [execOp, h.ev hx, h.ev hy]
  simp [go_sem, run_underlying ht, ht, hn, hr]
theorem x_quoi {k : IntKind} {t : TypeId} {m n r : Int} (ht : Tryd.prog.underlying t = some (.int k)) (hx : ev l x = some (.int k m)) (hy : ev l y = some (.int k n)) (hn : n ≠ 0) (hr : k.wrap (Int.tdiv m n) = r) :
    Ex Tryd.prog l w { dst := d, op := .binOp .quo t x y t2, type := ty, pos := pos, after := aft, guard := g } (.int k r) w := fun N a h => by
  simp only [execOp, h.ev hx, h.ev hy]
  simp [go_sem, run_underlying ht, ht, hn, hr]
theorem x_build36 {a0 a1 a2 a3 : ByteArray} :
    Ex Tryd.prog l w { dst := d, op := .build 36 #[(0, .const (.string a0)), (1, .const (.string a1)), (2, .const (.string a2)), (3, .const (.string a3))], type := ty, pos := pos, after := aft, guard := g } (.agg #[.string a0, .string a1, .string a2, .string a3]) w := fun N a h => by
  have e : ∀ s : ByteArray, a.eval (.const (.string s)) = .string s := fun _ => rfl
  have h36 := Tryd.underlying36
  simp [execOp, e, go_sem, h36]
theorem x_index36 {a0 a1 a2 a3 : ByteArray} {k : Nat} (hx : ev l x = some (.agg #[.string a0, .string a1, .string a2, .string a3])) (hy : ev l y = some (.int .u8 (k : Int))) (hk : k < 4) :
    Ex Tryd.prog l w { dst := d, op := .index 36 x y, type := ty, pos := pos, after := aft, guard := g } (.string (([a0, a1, a2, a3] : List ByteArray).getD k ⟨#[]⟩)) w := fun N a h => by
  simp only [execOp, h.ev hx, h.ev hy]
  have h36 := Tryd.underlying36
  have h9 := Tryd.underlying9
  rcases k with _ | _ | _ | _ | k
  · simp [Instr.index, run_underlying h36, asIntOf, go_sem, h36, h9]
  · simp [Instr.index, run_underlying h36, asIntOf, go_sem, h36, h9]
  · simp [Instr.index, run_underlying h36, asIntOf, go_sem, h36, h9]
  · simp [Instr.index, run_underlying h36, asIntOf, go_sem, h36, h9]
  · omega
theorem x_load35 {ad : Addr} {s : ByteArray} {c : Int} (hx : ev l x = some (.pointer (some ad))) (h0 : w.cell? ad = some (.int .u64 c)) (h1 : w.cell? (ad.add 1) = some (.string s)) :
    Ex Tryd.prog l w { dst := d, op := .load 35 x, type := ty, pos := pos, after := aft, guard := g } (.agg #[.int .u64 c, .string s]) w := fun N a h => by
  simp only [execOp, h.ev hx]
  have hu := Tryd.underlying35
  simp only [Addr.add, Nat.reduceEqDiff, if_false, ↓reduceIte] at h1
  simp [go_sem, hu, h0, h1]
theorem x_alloc35 :
    Ex Tryd.prog l w { dst := d, op := .alloc 35, type := ty, pos := pos, after := aft, guard := g } (.pointer (some ⟨w.heap.size, 0, none⟩)) (w.alloc (.cells #[.int .u64 0, .string ⟨#[]⟩] 35)) := fun N a h => by
  simp only [execOp]
  simp [go_sem]
theorem run_store35 {b : Nat} {u0 u1 : Value} {s : ByteArray} {c : Int} {a : Act} {N : Nat} (h : Fm N l a) (hx : ev l x = some (.pointer (some ⟨b, 0, none⟩))) (hy : ev l y = some (.agg #[.int .u64 c, .string s])) (hb : w.heap[b]? = some (.cells #[u0, u1] 35 (0, 0))) :
    (execOp a.eval { dst := none, op := .store 35 x y, type := ty, pos := pos, after := aft, guard := g }).run Tryd.prog w = .ok .skip (w.setRow b #[.int .u64 c, .string s]) := by
  simp only [execOp, h.ev hx, h.ev hy]
  have hu := Tryd.underlying35
  have e0 : w.cell? ⟨b, 0, none⟩ = some u0 := by simp [World.cell?, hb]
  have f0 : w.frozen? ⟨b, 0, none⟩ = false := by simp [World.frozen?, hb]
  have s0 : w.setCell ⟨b, 0, none⟩ (.int .u64 c) = w.setRow b #[.int .u64 c, u1] := setCell_eq_setRow w b 0 #[u0, u1] 35 (0, 0) (.int .u64 c) hb
  have hb1 := setRow_heap w b #[u0, u1] #[.int .u64 c, u1] 35 _ hb
  have e1 : (w.setRow b #[.int .u64 c, u1]).cell? ⟨b, 1, none⟩ = some u1 := by simp only [World.cell?, hb1]; rfl
  have f1 : (w.setRow b #[.int .u64 c, u1]).frozen? ⟨b, 1, none⟩ = false := by simp only [World.frozen?, hb1]; rfl
  have s1' := setCell_eq_setRow (w.setRow b #[.int .u64 c, u1]) b 1 #[.int .u64 c, u1] 35 (0, 0) (.string s) hb1
  rw [setRow_setRow] at s1'
  have s1 : (w.setRow b #[.int .u64 c, u1]).setCell ⟨b, 1, none⟩ (.string s) = w.setRow b #[.int .u64 c, .string s] := s1'
  simp [go_sem, hu, e0, f0, s0, e1, f1, s1]
theorem x_field35 {ad : Addr} (k : Nat) (hk : k < 2) (hx : ev l x = some (.pointer (some ad))) :
    Ex Tryd.prog l w { dst := d, op := .fieldAddr 35 x k, type := ty, pos := pos, after := aft, guard := g } (.pointer (some (ad.add k))) w := fun N a h => by
  simp only [execOp, h.ev hx]
  have hu := Tryd.underlying35
  rcases k with _ | _ | k
  · simp [go_sem, hu]
  · simp [go_sem, hu]
  · omega
end
theorem cell8 {w : World} {A : Option Addr} {L : List Int} (h : Kd.C (Kd.int .u8) w A L.length L) {i : Nat} (hi : i < L.length) : ∃ ad, A = some ad ∧ w.cell? (ad.add i) = some (.int .u8 L[i]) := by
  obtain ⟨ad, c, e, _, hK, hc⟩ := Kd.C_get h 0 (i : Int) (by omega) (by omega)
  have hK' : c = [.int .u8 (L.getD (i : Int).toNat 0)] := hK
  subst hK'
  have := hc 0 _ rfl
  rw [Int.toNat_natCast, Nat.add_zero, show (Kd.int .u8).sz = 1 from rfl, Nat.mul_one, List.getD_eq_getElem?_getD, List.getElem?_eq_getElem hi] at this
  exact ⟨ad, e, this⟩
theorem cells35 {w : World} {A : Option Addr} {L : List S35} (h : Kd.C k35 w A L.length L) {i : Nat} (hi : i < L.length) :
    ∃ ad, A = some ad ∧ w.cell? (ad.add (i * 2)) = some (.int .u64 (L[i]).f0) ∧ w.cell? ((ad.add (i * 2)).add 1) = some (.string (L[i]).f1) := by
  obtain ⟨ad, c, e, _, hK, hc⟩ := Kd.C_get h z35 (i : Int) (by omega) (by omega)
  rw [Int.toNat_natCast, List.getD_eq_getElem?_getD, List.getElem?_eq_getElem hi] at hK
  have hc' : ∀ j u, c[j]? = some u → w.cell? (ad.add (i * 2 + j)) = some u := fun j u hu => by
    have := hc j u hu
    rwa [Int.toNat_natCast] at this
  obtain rfl := k35_open hK
  exact ⟨ad, e, hc' 0 _ rfl, by rw [Addr.add_add]; exact hc' 1 _ rfl⟩
end Go.Proofs.YtiaokohnibkmbaaDoor.Mset
