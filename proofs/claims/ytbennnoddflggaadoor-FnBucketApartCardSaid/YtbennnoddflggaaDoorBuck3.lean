import Derived.Test.YtbennnoddflggaaDoorBuck2
import Derived.Test.YtbennnoddflggaaDoorWMore
import Derived.Test.YtbennnoddflggaaDoorWLast
import Derived.Deep.DeepCutAuto
import Derived.Deep.CutBlock
namespace Go.Proofs.YtbennnoddflggaaDoor.Buck
open Go.RowKit Go.Proofs.YtbennnoddflggaaDoorW.PrintWords Go.Proofs.YtbennnoddflggaaDoorW.PrintMore Go.Proofs.YtbennnoddflggaaDoorW.PrintLast
set_option linter.unusedVariables false
set_option linter.unusedSimpArgs false

/-! ### rows of steps, rows of answers -/
abbrev Six := Int × ByteArray × Bool × Bool × Bool × Bool
def ks : Kd Six := Kd.pair (Kd.int .i64) (Kd.pair Kd.string (Kd.pair Kd.bool (Kd.pair Kd.bool (Kd.pair Kd.bool Kd.bool))))
def ka : Kd Ans := Kd.pair Kd.bool (Kd.pair Kd.bool (Kd.pair Kd.bool (Kd.int .i64)))
def toStep (x : Six) : Step := ⟨x.1, x.2.1, x.2.2.1, x.2.2.2.1, x.2.2.2.2.1, x.2.2.2.2.2⟩
theorem ks_open {w : World} {x : Six} {cs : List Value} (h : ks.K w x cs) : cs = [.int .i64 x.1, .string x.2.1, .bool x.2.2.1, .bool x.2.2.2.1, .bool x.2.2.2.2.1, .bool x.2.2.2.2.2] := by
  obtain ⟨_, _, rfl, rfl, ⟨_, _, rfl, rfl, ⟨_, _, rfl, rfl, ⟨_, _, rfl, rfl, ⟨_, _, rfl, rfl, rfl⟩⟩⟩⟩⟩ := h
  rfl
theorem ka_mk (w : World) (base : Nat) (ok : Nat → Prop) (x : Ans) : ka.M w base ok x [.bool x.1, .bool x.2.1, .bool x.2.2.1, .int .i64 x.2.2.2] := ⟨[.bool x.1], [.bool x.2.1, .bool x.2.2.1, .int .i64 x.2.2.2], rfl, rfl, ⟨[.bool x.2.1], [.bool x.2.2.1, .int .i64 x.2.2.2], rfl, rfl, ⟨[.bool x.2.2.1], [.int .i64 x.2.2.2], rfl, rfl, rfl⟩⟩⟩
theorem info30 : (Tryd.prog.info? 30).map (fun i => (i.zero, i.size, i.bytes)) = some (some (.agg #[(.bool false), (.bool false), (.bool false), (.int .i64 0)]), 4, 16) := by kernel_rfl
def z6 : Six := (0, ⟨#[]⟩, false, false, false, false)
theorem C_iso {α β : Type} {d : Kd α} {f : β → α} {w : World} {A : Option Addr} {n : Nat} {xs : List β} (h : (Kd.iso d f).C w A n xs) : d.C w A n (xs.map f) := by
  refine ⟨by have := h.1; simpa using this, h.2.1, fun hp => ?_⟩
  obtain ⟨ad, e, hc⟩ := h.2.2 hp
  refine ⟨ad, e, fun j p hj => ?_⟩
  rw [List.getElem?_map] at hj
  cases hq : xs[j]? with
  | none => rw [hq] at hj; simp at hj
  | some q =>
    rw [hq] at hj
    simp at hj
    subst hj
    exact hc j q hq
theorem R_iso {α β : Type} {d : Kd α} {f : β → α} {e : Nat} {w : World} {base : Nat} {ok : Nat → Prop} {v : Value} {xs : List β} (h : d.R e w base ok v (xs.map f)) : (Kd.iso d f).R e w base ok v xs := by
  obtain ⟨h0, inner, ho, hr⟩ := h
  have hm : (xs.map f).length = xs.length := by simp
  refine ⟨h0, inner, hm ▸ ho, hm ▸ hr.1, fun j p hj => ?_⟩
  exact hr.2 j (f p) (by rw [List.getElem?_map, hj]; rfl)
theorem ks_C {w : World} {A : Option Addr} {n : Nat} {xs : List Six} (h : ks.C w A n xs) (i : Nat) (hi : i < xs.length) :
    ∃ ad, A = some ad ∧ ∃ x1 x2 x3 x4 x5 x6, xs[i]'hi = (x1, x2, x3, x4, x5, x6) ∧ (w.cell? (ad.add (i * 6)) = some (.int .i64 x1) ∧ w.cell? ⟨(ad.add (i * 6)).block, (ad.add (i * 6)).off + 1, none⟩ = some (.string x2) ∧ w.cell? ⟨(ad.add (i * 6)).block, (ad.add (i * 6)).off + 2, none⟩ = some (.bool x3) ∧ w.cell? ⟨(ad.add (i * 6)).block, (ad.add (i * 6)).off + 3, none⟩ = some (.bool x4) ∧ w.cell? ⟨(ad.add (i * 6)).block, (ad.add (i * 6)).off + 4, none⟩ = some (.bool x5) ∧ w.cell? ⟨(ad.add (i * 6)).block, (ad.add (i * 6)).off + 5, none⟩ = some (.bool x6)) := by
  obtain ⟨ad, c, e, _, hK, hc0⟩ := Kd.C_get h z6 (i : Int) (by omega) (by have := h.1; omega)
  have hc : ∀ j u, c[j]? = some u → w.cell? (ad.add (i * 6 + j)) = some u := hc0
  have hx : xs.getD i z6 = xs[i]'hi := by simp [List.getD_eq_getElem?_getD, hi]
  rw [Int.toNat_natCast, hx] at hK
  obtain rfl := ks_open hK
  refine ⟨ad, e, _, _, _, _, _, _, rfl, hc 0 _ rfl, ?_, ?_, ?_, ?_, ?_⟩
  · rw [← add_field _ _ 1 (by omega)]; exact hc 1 _ rfl
  · rw [← add_field _ _ 2 (by omega)]; exact hc 2 _ rfl
  · rw [← add_field _ _ 3 (by omega)]; exact hc 3 _ rfl
  · rw [← add_field _ _ 4 (by omega)]; exact hc 4 _ rfl
  · rw [← add_field _ _ 5 (by omega)]; exact hc 5 _ rfl
/-- The world at a round's head. -/
structure Head (w0 : World) (b : Bs) (f : St) (n : Nat) (w : World) : Prop where
  cache : w.heap[b.bc]? = some (.cells #[.map (some b.bm)] 48 (0, 0))
  map : MapIs w b.bm n f
  own : w.heap[b.b4]? = some (.cells #[errAt b.e1] 37 (0, 0))
  exs : w.heap[b.b5]? = some (.cells #[errAt b.e2] 37 (0, 0))
  er1 : Err w b.e1
  er2 : Err w b.e2
  told : Told w0 b.eg
  below : Below b.base w0 w
/-- The blocks, of which those of the round are still to come. -/
abbrev bs0 (z : Nat) (eg : Addr) : Bs := ⟨z, z + 1, z, z + 1 + 1 + 1 + 1, z + 1 + 1 + 1 + 1 + 1, 0, 0, z + 1 + 1, z + 1 + 1 + 1, eg⟩
abbrev bsAt (z : Nat) (eg : Addr) (k : Nat) : Bs := ⟨z, z + 1, z, z + 1 + 1 + 1 + 1, z + 1 + 1 + 1 + 1 + 1, k, k + 1, z + 1 + 1, z + 1 + 1 + 1, eg⟩
theorem bsAt_ok {z k : Nat} {eg : Addr} (h : z + 5 < k) (hg : eg.block < z) : (bsAt z eg k).ok := by
  constructor <;> simp <;> omega
theorem Head.env {w0 : World} {z : Nat} {eg : Addr} {f : St} {n : Nat} {w : World} (h : Head w0 (bs0 z eg) f n w) (hg : eg.block < z) (s : Step) (a : Ans) :
    Env w0 w (bsAt z eg w.heap.size) f n s a ((w.alloc (.cells #[.int .i64 s.act, .string s.name, .bool s.good, .bool s.asks, .bool s.found, .bool s.fails] 28)).alloc (.cells #[.bool a.1, .bool a.2.1, .bool a.2.2.1, .int .i64 a.2.2.2] 30)) := by
  have hb : ∀ (k : Nat), k < w.heap.size → ((w.alloc (.cells #[.int .i64 s.act, .string s.name, .bool s.good, .bool s.asks, .bool s.found, .bool s.fails] 28)).alloc (.cells #[.bool a.1, .bool a.2.1, .bool a.2.2.1, .int .i64 a.2.2.2] 30)).heap[k]? = w.heap[k]? := fun k hk =>
    ((((Below.refl _ _).alloc (Nat.le_refl _) _).alloc (by simp) _ : Below w.heap.size w _)).block k hk
  have l5 : z + 5 < w.heap.size := (Array.getElem?_eq_some_iff.1 h.exs).1
  have old : ∀ {k : Nat} {o : Obj}, w.heap[k]? = some o → ((w.alloc (.cells #[.int .i64 s.act, .string s.name, .bool s.good, .bool s.asks, .bool s.found, .bool s.fails] 28)).alloc (.cells #[.bool a.1, .bool a.2.1, .bool a.2.2.1, .int .i64 a.2.2.2] 30)).heap[k]? = some o := fun hk => (hb _ (Array.getElem?_eq_some_iff.1 hk).1).trans hk
  exact {
    cache := old h.cache
    map := h.map.kept (hb _ h.map.lt)
    own := old h.own
    exs := old h.exs
    stp := by
      show ((w.alloc _).alloc _).heap[w.heap.size]? = _
      exact (Below.block ((Below.refl _ _).alloc (Nat.le_refl _) _ : Below (w.alloc _).heap.size (w.alloc _) _) _ (by simp)).trans (heap_alloc_new _ _)
    ans := by
      show ((w.alloc _).alloc _).heap[w.heap.size + 1]? = _
      have := heap_alloc_new (w.alloc (.cells #[.int .i64 s.act, .string s.name, .bool s.good, .bool s.asks, .bool s.found, .bool s.fails] 28)) (.cells #[.bool a.1, .bool a.2.1, .bool a.2.2.1, .int .i64 a.2.2.2] 30)
      simpa using this
    er1 := by obtain ⟨u, hu⟩ := h.er1; exact ⟨u, old hu⟩
    er2 := by obtain ⟨u, hu⟩ := h.er2; exact ⟨u, old hu⟩
    told := h.told
    below := (h.below.alloc (by show z ≤ _; omega) _).alloc (by show z ≤ _; simp; omega) _
    apart := bsAt_ok l5 hg
    rest := fun k _ _ hk => hb k hk
    grow := by simp; omega }
theorem Env.head {w0 wS : World} {z k : Nat} {eg : Addr} {f : St} {n : Nat} {s : Step} {a : Ans} {w : World} (h : Env w0 wS (bsAt z eg k) f n s a w) : Head w0 (bs0 z eg) f n w :=
  ⟨h.cache, h.map, h.own, h.exs, h.er1, h.er2, h.told, h.below⟩
theorem Head.drew {w0 : World} {b : Bs} {f : St} {n : Nat} {w : World} (h : Head w0 b f n w) : Head w0 b f n w.drew := ⟨h.cache, h.map, h.own, h.exs, h.er1, h.er2, h.told, h.below.drew⟩
/-- Behind an append: a block that is none of these has been written, or a new one. -/
theorem Head.grown {w0 : World} {z : Nat} {eg : Addr} {f : St} {n : Nat} {w w' : World} {row : Option Nat} (h : Head w0 (bs0 z eg) f n w) (hg : w.grownBy w' row) (hb : Below z w0 w') (hr : ∀ k, row = some k → ∃ cs, w.heap[k]? = some (.cells cs 30 (0, 0))) : Head w0 (bs0 z eg) f n w' := by
  have old : ∀ {k : Nat} {o : Obj}, w.heap[k]? = some o → (∀ cs, o ≠ .cells cs 30 (0, 0)) → w'.heap[k]? = some o := fun {k o} hk hne => by
    refine (hg.block k (Array.getElem?_eq_some_iff.1 hk).1 (fun e => ?_)).trans hk
    obtain ⟨cs, hcs⟩ := hr k e.symm
    rw [hk] at hcs
    exact hne cs (Option.some.inj hcs)
  obtain ⟨u1, hu1⟩ := h.er1
  obtain ⟨u2, hu2⟩ := h.er2
  obtain ⟨D, ⟨es, clock, hm1, hm2⟩, hi⟩ := h.map
  exact ⟨old h.cache (by simp), ⟨D, ⟨es, clock, old hm1 (by simp), hm2⟩, hi⟩, old h.own (by simp), old h.exs (by simp), ⟨u1, old hu1 (by simp)⟩, ⟨u2, old hu2 (by simp)⟩, h.told, hb⟩
end Go.Proofs.YtbennnoddflggaaDoor.Buck
