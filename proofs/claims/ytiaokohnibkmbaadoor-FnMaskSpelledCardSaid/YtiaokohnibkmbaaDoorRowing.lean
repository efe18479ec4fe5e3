/- Arguments that are slices of whatever elements, opened: of this session. -/
import Derived.Test.YtiaokohnibkmbaaDoorWWords
import Derived.Deep.Slices
import Derived.Deep.Fields
import Derived.ChangeSame
import Derived.ChangeArms
namespace Go.Proofs.YtiaokohnibkmbaaDoor.Rowing
open Go.RowKit Go.ChangeShapes Go.WideShapes Go.Deep Go.Proofs.YtiaokohnibkmbaaDoorW.PrintWords

section
variable {H : Type} {enc : TypeId × Value → H} {P : Program} {w : World} {base : Nat} {spare : Nat → Bool} {held : Bool}
/-- A slice, its elements opened one by one. -/
theorem open_row {α : Type} (d : Kd α) {t e : TypeId} {A : Option Addr} {len cap : Nat} {dd : DataW H} {pp : List MemPlace}
    (ht : P.underlying t = some (.slice e)) (hsz : P.cellsOf e = d.sz)
    (hel : ∀ (n : Nat) (cs : List Value) (y : DataW H × List MemPlace), DataW.trod enc P w base spare held n e cs = some y → cs.length = d.sz → ∃ x, d.K w x cs)
    (h : DataW.Trod enc P w base spare held t (.slice A len cap) dd pp) : ∃ xs : List α, len = xs.length ∧ xs.length ≤ cap ∧ d.C w A xs.length xs := by
  obtain ⟨fuel, hf⟩ := h
  rcases open_slice ht hf with ⟨hcs, _⟩ | ⟨a, l, c, m, n, D, Pl, hcs, _, hl, hm, hmm, _, hi⟩
  · simp [Value.cells] at hcs
    obtain ⟨rfl, rfl, rfl⟩ := hcs
    exact ⟨[], rfl, Nat.le_refl _, Kd.C_nil _ _⟩
  · simp [Value.cells] at hcs
    obtain ⟨rfl, rfl, rfl⟩ := hcs
    have hlm : len ≤ m := by rw [hmm]; split <;> omega
    have hx : ∀ i, i < len → ∃ (x : α) (cs : List Value), cs.length = d.sz ∧ d.K w x cs ∧ ∀ j u, cs[j]? = some u → w.cell? (a.add (i * d.sz + j)) = some u := by
      intro i hil
      obtain ⟨cs', hc, htr⟩ := hi i (by omega)
      obtain ⟨_, hlen, hat⟩ := World.cells?_some hc
      rw [hsz] at hlen hat hc
      obtain ⟨x, hx⟩ := hel n cs' _ htr hlen
      refine ⟨x, cs', hlen, hx, fun j u hu => ?_⟩
      have hj : j < d.sz := by rw [← hlen]; exact (List.getElem?_eq_some_iff.1 hu).1
      rw [← Go.Deep.add_add, hat j hj, hu]
    have hxs : ∀ k, k ≤ len → ∃ xs : List α, xs.length = k ∧ ∀ j p, xs[j]? = some p → ∃ c, c.length = d.sz ∧ d.K w p c ∧ ∀ i u, c[i]? = some u → w.cell? (a.add (j * d.sz + i)) = some u := by
      intro k
      induction k with
      | zero => intro _; exact ⟨[], rfl, fun j p hj => by simp at hj⟩
      | succ k ih =>
        intro hk
        obtain ⟨xs, hxl, hxa⟩ := ih (by omega)
        obtain ⟨x, cs, h1, h2, h3⟩ := hx k (by omega)
        refine ⟨xs ++ [x], by simp [hxl], fun j p hj => ?_⟩
        rcases Nat.lt_trichotomy j k with hjk | hjk | hjk
        · rw [List.getElem?_append_left (by omega)] at hj; exact hxa j p hj
        · subst hjk
          rw [List.getElem?_append_right (by omega), hxl] at hj
          simp at hj; subst hj
          exact ⟨cs, h1, h2, h3⟩
        · rw [List.getElem?_append_right (by omega)] at hj
          have : j - xs.length ≥ 1 := by omega
          rw [List.getElem?_eq_none (by simp; omega)] at hj; cases hj
    obtain ⟨xs, hxl, hxa⟩ := hxs len (Nat.le_refl _)
    refine ⟨xs, hxl.symm, by omega, rfl, ?_, fun _ => ⟨a, rfl, hxa⟩⟩
    have : maxLen ≤ 9223372036854775807 := by decide
    omega

theorem el_bool {e : TypeId} (he : P.underlying e = some .bool) (n : Nat) (cs : List Value) (y : DataW H × List MemPlace) (h : DataW.trod enc P w base spare held n e cs = some y) (_ : cs.length = Kd.bool.sz) : ∃ x, Kd.bool.K w x cs := by
  obtain ⟨b, rfl, _⟩ := DataW.trod_bool he h
  exact ⟨b, rfl⟩
theorem el_int {k : IntKind} {e : TypeId} (he : P.underlying e = some (.int k)) (n : Nat) (cs : List Value) (y : DataW H × List MemPlace) (h : DataW.trod enc P w base spare held n e cs = some y) (_ : cs.length = (Kd.int k).sz) : ∃ x, (Kd.int k).K w x cs := by
  obtain ⟨b, rfl, _⟩ := DataW.trod_int he h
  exact ⟨b, rfl⟩
theorem el_string {e : TypeId} (he : P.underlying e = some .string) (n : Nat) (cs : List Value) (y : DataW H × List MemPlace) (h : DataW.trod enc P w base spare held n e cs = some y) (_ : cs.length = Kd.string.sz) : ∃ x, Kd.string.K w x cs := by
  obtain ⟨b, rfl, _⟩ := DataW.trod_string he h
  exact ⟨b, rfl⟩
theorem el_two {α : Type} (d : Kd α) (hsz : d.sz = 2) (mk : ∀ a b, ∃ x, d.K w x [.int .i64 a, .int .i64 b]) {e : TypeId} {f0 f1 : Field} (he : P.underlying e = some (.struct #[f0, f1])) (o0 : f0.offset = 0) (o1 : f1.offset = 1)
    (c0 : P.cellsOf f0.type = 1) (c1 : P.cellsOf f1.type = 1) (u0 : P.underlying f0.type = some (.int .i64)) (u1 : P.underlying f1.type = some (.int .i64))
    (n : Nat) (cs : List Value) (y : DataW H × List MemPlace) (h : DataW.trod enc P w base spare held n e cs = some y) (hl : cs.length = d.sz) : ∃ x, d.K w x cs := by
  obtain ⟨y0, y1, n, _, _, h0, h1⟩ := trod_struct2 he h
  rw [hsz] at hl
  match cs, hl, h0, h1 with
  | [x0, x1], _, h0, h1 =>
    rw [o0, c0] at h0
    rw [o1, c1] at h1
    obtain ⟨a, ha, _⟩ := DataW.trod_int u0 h0
    obtain ⟨b, hb, _⟩ := DataW.trod_int u1 h1
    simp at ha hb
    subst ha hb
    exact mk a b
end
end Go.Proofs.YtiaokohnibkmbaaDoor.Rowing
