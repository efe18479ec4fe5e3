import Derived.Test.YtlgoghonnnobfaaDoorSpc
import Derived.Test.YtlgoghonnnobfaaDoorOro
namespace Go.Proofs.YtlgoghonnnobfaaDoor.Sym
open Go Go.RowKit Go.Proofs.YtlgoghonnnobfaaDoor.Sfn Go.Proofs.YtlgoghonnnobfaaDoorW.PrintWords Go.Proofs.YtlgoghonnnobfaaDoorW.PrintLast Go.Proofs.YtlgoghonnnobfaaDoorW.PrintMore
set_option linter.unusedVariables false
set_option linter.unusedSimpArgs false
/-! ### more of frames by the list of their slots: guards, arguments, rows of units, the order that is drawn -/
section
variable {P : Program} {ops : Array Oper} {Q : Exit → Act → World → Prop} {a : Act} {w w' : World} {rest : List Oper} {o : Oper} {N d : Nat} {l : Slots} {v v' : Value}
theorem Ex.to (h : Ex P l w o v w') (e : v = v') : Ex P l w o v' w' := e ▸ h
theorem won {j e : Nat} {b : Bool} (h : Fm N l a) (hg : o.guard = some (j, b)) (hj : (ops[j]?).bind (·.dst) = some e) (hl : lk l e = some (.bool b)) (he : e < N) : Region.wanted o (yielded ops a.tmps) = true := by
  rw [wanted_if h hg hj hl he]
  simp
theorem woff {j e : Nat} {b : Bool} (h : Fm N l a) (hg : o.guard = some (j, b)) (hj : (ops[j]?).bind (·.dst) = some e) (hl : lk l e = some (.bool (!b))) (he : e < N) : Region.wanted o (yielded ops a.tmps) = false := by
  rw [wanted_if h hg hj hl he]
  cases b <;> rfl
theorem x_pick_t {x y z : Operand} {dd : Option Tmp} {ty : TypeId} {pos : String} {aft : Array Edge} {g : Option (Nat × Bool)} {v1 v2 : Value} (hx : ev l x = some (.bool true)) (hy : ev l y = some v1) (hz : ev l z = some v2) :
    Ex P l w { dst := dd, op := .pick x y z, type := ty, pos := pos, after := aft, guard := g } v1 w := x_pick hx hy hz
theorem x_pick_f {x y z : Operand} {dd : Option Tmp} {ty : TypeId} {pos : String} {aft : Array Edge} {g : Option (Nat × Bool)} {v1 v2 : Value} (hx : ev l x = some (.bool false)) (hy : ev l y = some v1) (hz : ev l z = some v2) :
    Ex P l w { dst := dd, op := .pick x y z, type := ty, pos := pos, after := aft, guard := g } v2 w := x_pick hx hy hz
theorem map0 (h : Fm N l a) : (#[] : Array Operand).map a.eval = #[] := by simp
theorem map1 (h : Fm N l a) {x : Operand} {v1 : Value} (hx : ev l x = some v1) : (#[x]).map a.eval = #[v1] := by
  simp only [List.map_toArray, List.map_cons, List.map_nil, h.ev hx]
theorem map2 (h : Fm N l a) {x y : Operand} {v1 v2 : Value} (hx : ev l x = some v1) (hy : ev l y = some v2) : (#[x, y]).map a.eval = #[v1, v2] := by
  simp only [List.map_toArray, List.map_cons, List.map_nil, h.ev hx, h.ev hy]
theorem map3 (h : Fm N l a) {x y z : Operand} {v1 v2 v3 : Value} (hx : ev l x = some v1) (hy : ev l y = some v2) (hz : ev l z = some v3) : (#[x, y, z]).map a.eval = #[v1, v2, v3] := by
  simp only [List.map_toArray, List.map_cons, List.map_nil, h.ev hx, h.ev hy, h.ev hz]
theorem q_cell {w0 w : World} {p : Addr} {u : Value} (hw : ∃ n, w = w0.drewN n) (h : w0.cell? p = some u) : w.cell? p = some u := by
  obtain ⟨n, rfl⟩ := hw
  exact h
theorem lk1 {x : Value} : ∀ s v, lk [(0, x)] s = some v → (#[x] : Array Value)[s]? = some v
  | 0, _, h => h
  | _ + 1, _, h => by cases h
theorem lk2 {x y : Value} : ∀ s v, lk [(0, x), (1, y)] s = some v → (#[x, y] : Array Value)[s]? = some v
  | 0, _, h => h
  | 1, _, h => h
  | _ + 2, _, h => by cases h
theorem lk3 {x y z : Value} : ∀ s v, lk [(0, x), (1, y), (2, z)] s = some v → (#[x, y, z] : Array Value)[s]? = some v
  | 0, _, h => h
  | 1, _, h => h
  | 2, _, h => h
  | _ + 3, _, h => by cases h
theorem ret_slot {fn : Func} {R : Ending → World → Prop} {k : Nat} (h : Fm N l a) (hr : fn.results = #[.tmp k]) (hk : k < N) (hl : lk l k = some v) (hR : R (.returned v) w) : bodyPost P fn R .ret a w := by
  refine ⟨h.defers, v, ?_, hR⟩
  unfold results
  rw [hr]
  have h1 := h.slot k v hl
  have h' : a.tmps.getD k undef = v := h1
  rw [Array.getD_eq_getD_getElem?] at h'
  simp [h']
theorem x_append {x y : Operand} {dd : Option Tmp} {t u ty : TypeId} {pos : String} {aft : Array Edge} {g : Option (Nat × Bool)} {v1 v2 : Value} (hx : ev l x = some v1) (hy : ev l y = some v2) (hr : (Builtin.append_ #[t, u] ty #[v1, v2]).run P w = .ok v w') :
    Ex P l w { dst := dd, op := .call { callee := .builtin .append, args := #[x, y], argTypes := #[t, u] }, type := ty, pos := pos, after := aft, guard := g } v w' := fun N a h => by
  simp only [execOp, resolve, map2 h hx hy]
  simp only [Sem.run_bind, Sem.run_pure, Result.andThen_ok, invoke, builtin, hr]
theorem x_conv {x : Operand} {dd : Option Tmp} {t u ty : TypeId} {pos : String} {aft : Array Edge} {g : Option (Nat × Bool)} {v1 : Value} (hx : ev l x = some v1) (hr : (convert t u v1).run P w = .ok v w') :
    Ex P l w { dst := dd, op := .convert t u x, type := ty, pos := pos, after := aft, guard := g } v w' := fun N a h => by
  simp only [execOp, h.ev hx]
  simp [go_sem, hr]
theorem cell_at {w : World} {b k : Nat} {cs : Array Value} {t : TypeId} {fz : Nat × Nat} {v : Value} (h : w.heap[b]? = some (.cells cs t fz)) (hk : cs[k]? = some v) : w.cell? ((⟨b, 0, none⟩ : Addr).add k) = some v := by
  have e : (⟨b, 0, none⟩ : Addr).add k = ⟨b, k, none⟩ := by unfold Addr.add; split <;> simp_all
  rw [e]
  simp only [World.cell?, h]
  exact hk
/-! #### the order that is drawn, with one writer -/
theorem a_take {i fuel : Nat} {listed : Array Bool} (h : Fm N l a) (hi : ops[i]? = some o) (hd : o.dst = some d) (hN : d < N) (hw : Region.wanted o (yielded ops a.tmps) = true) (hs : Region.noSelect ops = true) (hf : Region.free .any ops listed i = true) (hr : (Region.ready .any ops listed).contains i = true)
    (hx : ∀ w, Ex P l w o v w) (H : ∀ a', Fm N ((d, v) :: l) a' → wpAny P .any ops (NoPanic Q) fuel (listed.setIfInBounds i true) a' w) : wpAny P .any ops (NoPanic Q) (fuel + 1) listed a w := by
  refine wpAny_take (oi := o) (v := v) hi hs hf hr (fun c a w h => h) (.inl ⟨hw, fun w => hx w N a h⟩) ?_
  rw [hd]
  exact H _ (h.put hN v)
theorem a_one {i fuel : Nat} {listed : Array Bool} (h : Fm N l a) (hi : ops[i]? = some o) (hd : o.dst = some d) (hN : d < N) (hw : Region.wanted o (yielded ops a.tmps) = true) (hr : Region.ready .any ops listed = [i])
    (hx : Ex P l w o v w') (H : ∀ a', Fm N ((d, v) :: l) a' → wpAny P .any ops (NoPanic Q) fuel (listed.setIfInBounds i true) a' w') : wpAny P .any ops (NoPanic Q) (fuel + 1) listed a w := by
  refine wpAny_all hr (by simp) ?_
  intro j hj
  have : j = i := by simpa using hj
  subst this
  unfold wpOp
  rw [hi]
  simp only
  rw [if_pos hw]
  left
  unfold Oper.wp
  rw [hx N a h]
  show wpAny P .any ops (NoPanic Q) fuel _ (a.put o.dst v) w'
  rw [hd]
  exact H _ (h.put hN v)
end
/-! #### rows of units -/
theorem cells37 {w : World} {A : Option Addr} {L : List S37} (h : Kd.C k37 w A L.length L) {i : Nat} (hi : i < L.length) :
    ∃ ad, A = some ad ∧ w.cell? (ad.add (i * 3)) = some (.string (rd_T37 L (i : Int)).f0) ∧ w.cell? ((ad.add (i * 3)).add 1) = some (.int .i32 (rd_T37 L (i : Int)).f1) ∧ w.cell? ((ad.add (i * 3)).add 2) = some (.bool (rd_T37 L (i : Int)).f2) := by
  obtain ⟨ad, c, e, _, hK, hc⟩ := Kd.C_get h z37 (i : Int) (by omega) (by omega)
  have hc' : ∀ j u, c[j]? = some u → w.cell? (ad.add (i * 3 + j)) = some u := fun j u hu => by
    have := hc j u hu
    rwa [Int.toNat_natCast] at this
  obtain rfl := k37_open hK
  refine ⟨ad, e, hc' 0 _ rfl, ?_, ?_⟩
  · rw [Addr.add_add]; exact hc' 1 _ rfl
  · rw [Addr.add_add]; exact hc' 2 _ rfl
theorem info37 : (Tryd.prog.info? 37).map (fun i => (i.zero, i.size, i.bytes)) = some (some (.agg #[.string ⟨#[]⟩, .int .i32 0, .bool false]), 3, 24) := by kernel_rfl
theorem inf37 : ∃ i, Tryd.prog.info? 37 = some i ∧ i.size = 3 := by
  have := info37
  cases e : Tryd.prog.info? 37 with
  | none => rw [e] at this; cases this
  | some i =>
    rw [e] at this
    simp only [Option.map_some, Option.some.injEq, Prod.mk.injEq] at this
    exact ⟨i, rfl, this.2.1⟩
section
variable {w : World} {l : Slots} {x y : Operand} {d : Option Tmp} {t ty : TypeId} {pos : String} {aft : Array Edge} {g : Option (Nat × Bool)}
theorem x_el37 {ad : Addr} {n c k : Nat} (hx : ev l x = some (.slice (some ad) n c)) (hy : ev l y = some (.int .i64 (k : Int))) (hk : k < n) :
    Ex Tryd.prog l w { dst := d, op := .indexAddr 34 x y, type := ty, pos := pos, after := aft, guard := g } (.pointer (some (ad.add (k * 3)))) w := by
  obtain ⟨i, hi, hs⟩ := inf37
  have := x_elem (P := Tryd.prog) (w := w) (d := d) (ty := ty) (pos := pos) (aft := aft) (g := g) Tryd.underlying34 hi hs hx hy (by omega) (by omega)
  rwa [Int.toNat_natCast] at this
theorem x_from34 {A : Option Addr} {n c j : Nat} (hx : ev l x = some (.slice A n c)) (hy : ev l y = some (.int .i64 (j : Int))) (hj : j ≤ n) :
    Ex Tryd.prog l w { dst := d, op := .slice 34 x (some y) none none, type := ty, pos := pos, after := aft, guard := g } (.slice (if c = j then A else A.map (·.add (j * 3))) (n - j) (c - j)) w := by
  obtain ⟨i, hi, hs⟩ := inf37
  exact x_slfrom Tryd.underlying34 hi hs hx hy hj
theorem x_to34 {A : Option Addr} {n c j : Nat} (hx : ev l x = some (.slice A n c)) (hy : ev l y = some (.int .i64 (j : Int))) (hj : j ≤ n) (hc : n ≤ c) :
    Ex Tryd.prog l w { dst := d, op := .slice 34 x none (some y) none, type := ty, pos := pos, after := aft, guard := g } (.slice A j c) w := by
  obtain ⟨i, hi, hs⟩ := inf37
  exact x_slto Tryd.underlying34 hi hx hy hj hc
end
theorem C_drop {w : World} {A : Option Addr} {L : List S37} {c j : Nat} (h : Kd.C k37 w A L.length L) (hc : L.length ≤ c) (hj : j ≤ L.length) : Kd.C k37 w (if c = j then A else A.map (·.add (j * 3))) (L.drop j).length (L.drop j) := by
  obtain ⟨h1, h2, h3⟩ := h
  refine ⟨rfl, by rw [List.length_drop]; omega, fun hn => ?_⟩
  rw [List.length_drop] at hn
  obtain ⟨ad, rfl, hcell⟩ := h3 (by omega)
  rw [if_neg (by omega)]
  refine ⟨ad.add (j * 3), rfl, fun k p hp => ?_⟩
  rw [List.getElem?_drop] at hp
  obtain ⟨cs, e1, e2, e3⟩ := hcell (j + k) p hp
  refine ⟨cs, e1, e2, fun i u hu => ?_⟩
  have := e3 i u hu
  rw [Addr.add_add]
  have e : j * 3 + (k * k37.sz + i) = (j + k) * k37.sz + i := by
    have : k37.sz = 3 := rfl
    rw [this, Nat.add_mul]; omega
  rw [e]
  exact this
theorem C_take {w : World} {A : Option Addr} {L : List S37} {j : Nat} (h : Kd.C k37 w A L.length L) (hj : j ≤ L.length) : Kd.C k37 w A (L.take j).length (L.take j) := by
  obtain ⟨h1, h2, h3⟩ := h
  have hl : (L.take j).length = j := by rw [List.length_take]; omega
  refine ⟨rfl, by omega, fun hn => ?_⟩
  obtain ⟨ad, rfl, hcell⟩ := h3 (by omega)
  refine ⟨ad, rfl, fun k p hp => ?_⟩
  rw [List.getElem?_take] at hp
  split at hp
  · exact hcell k p hp
  · cases hp
theorem rd_drop (L : List S37) (j k : Nat) : rd_T37 (L.drop j) (k : Int) = rd_T37 L ((j + k : Nat) : Int) := by
  unfold rd_T37
  rw [Int.toNat_natCast, Int.toNat_natCast, List.getD_eq_getElem?_getD, List.getD_eq_getElem?_getD, List.getElem?_drop]
end Go.Proofs.YtlgoghonnnobfaaDoor.Sym
