import Derived.Test.YtiaokohnibkmbaaDoorOro
namespace Go.Proofs.YtiaokohnibkmbaaDoor.Sym
open Go Go.RowKit Go.Proofs.YtiaokohnibkmbaaDoorW.PrintWords Go.Proofs.YtiaokohnibkmbaaDoorW.PrintLast Go.Proofs.YtiaokohnibkmbaaDoorW.PrintMore
set_option linter.unusedVariables false
set_option linter.unusedSimpArgs false
/-! ### more of frames by the list of their slots: guards, arguments, rows of units, the order that is drawn -/
section
variable {P : Program} {ops : Array Oper} {Q : Exit → Act → World → Prop} {a : Act} {w w' : World} {rest : List Oper} {o : Oper} {N d : Nat} {l : Slots} {v v' : Value}
theorem Ex.to (h : Ex P l w o v w') (e : v = v') : Ex P l w o v' w' := e ▸ h
theorem won {j e : Nat} {b : Bool} (h : Fm N l a) (hg : o.guard = some (j, b)) (hj : (ops[j]?).bind (·.dst) = some e) (hl : lk l e = some (.bool b)) (he : e < N) : Region.wanted o (yielded ops a.tmps) = true := by
  rw [wanted_if h hg hj hl he]
  simp
theorem woff {j e : Nat} {b : Bool} (h : Fm N l a) (hg : o.guard = some (j, b)) (hj : (ops[j]?).bind (·.dst) = some e) (hl : lk l e = some (.bool (!b))) (he : e < N) : Region.wanted o (yielded ops a.tmps) = false := by
  rw [wanted_if h hg hj hl he]
  cases b <;> rfl
theorem x_pick_t {x y z : Operand} {dd : Option Tmp} {ty : TypeId} {pos : String} {aft : Array Edge} {g : Option (Nat × Bool)} {v1 v2 : Value} (hx : ev l x = some (.bool true)) (hy : ev l y = some v1) (hz : ev l z = some v2) :
    Ex P l w { dst := dd, op := .pick x y z, type := ty, pos := pos, after := aft, guard := g } v1 w := x_pick hx hy hz
theorem x_pick_f {x y z : Operand} {dd : Option Tmp} {ty : TypeId} {pos : String} {aft : Array Edge} {g : Option (Nat × Bool)} {v1 v2 : Value} (hx : ev l x = some (.bool false)) (hy : ev l y = some v1) (hz : ev l z = some v2) :
    Ex P l w { dst := dd, op := .pick x y z, type := ty, pos := pos, after := aft, guard := g } v2 w := x_pick hx hy hz
theorem map0 (h : Fm N l a) : (#[] : Array Operand).map a.eval = #[] := by simp
theorem map1 (h : Fm N l a) {x : Operand} {v1 : Value} (hx : ev l x = some v1) : (#[x]).map a.eval = #[v1] := by
  simp only [List.map_toArray, List.map_cons, List.map_nil, h.ev hx]
theorem map2 (h : Fm N l a) {x y : Operand} {v1 v2 : Value} (hx : ev l x = some v1) (hy : ev l y = some v2) : (#[x, y]).map a.eval = #[v1, v2] := by
  simp only [List.map_toArray, List.map_cons, List.map_nil, h.ev hx, h.ev hy]
theorem map3 (h : Fm N l a) {x y z : Operand} {v1 v2 v3 : Value} (hx : ev l x = some v1) (hy : ev l y = some v2) (hz : ev l z = some v3) : (#[x, y, z]).map a.eval = #[v1, v2, v3] := by
  simp only [List.map_toArray, List.map_cons, List.map_nil, h.ev hx, h.ev hy, h.ev hz]
theorem q_cell {w0 w : World} {p : Addr} {u : Value} (hw : ∃ n, w = w0.drewN n) (h : w0.cell? p = some u) : w.cell? p = some u := by
  obtain ⟨n, rfl⟩ := hw
  exact h
theorem lk1 {x : Value} : ∀ s v, lk [(0, x)] s = some v → (#[x] : Array Value)[s]? = some v
  | 0, _, h => h
  | _ + 1, _, h => by cases h
theorem lk2 {x y : Value} : ∀ s v, lk [(0, x), (1, y)] s = some v → (#[x, y] : Array Value)[s]? = some v
  | 0, _, h => h
  | 1, _, h => h
  | _ + 2, _, h => by cases h
theorem lk3 {x y z : Value} : ∀ s v, lk [(0, x), (1, y), (2, z)] s = some v → (#[x, y, z] : Array Value)[s]? = some v
  | 0, _, h => h
  | 1, _, h => h
  | 2, _, h => h
  | _ + 3, _, h => by cases h
theorem ret_slot {fn : Func} {R : Ending → World → Prop} {k : Nat} (h : Fm N l a) (hr : fn.results = #[.tmp k]) (hk : k < N) (hl : lk l k = some v) (hR : R (.returned v) w) : bodyPost P fn R .ret a w := by
  refine ⟨h.defers, v, ?_, hR⟩
  unfold results
  rw [hr]
  have h1 := h.slot k v hl
  have h' : a.tmps.getD k undef = v := h1
  rw [Array.getD_eq_getD_getElem?] at h'
  simp [h']
theorem x_append {x y : Operand} {dd : Option Tmp} {t u ty : TypeId} {pos : String} {aft : Array Edge} {g : Option (Nat × Bool)} {v1 v2 : Value} (hx : ev l x = some v1) (hy : ev l y = some v2) (hr : (Builtin.append_ #[t, u] ty #[v1, v2]).run P w = .ok v w') :
    Ex P l w { dst := dd, op := .call { callee := .builtin .append, args := #[x, y], argTypes := #[t, u] }, type := ty, pos := pos, after := aft, guard := g } v w' := fun N a h => by
  simp only [execOp, resolve, map2 h hx hy]
  simp only [Sem.run_bind, Sem.run_pure, Result.andThen_ok, invoke, builtin, hr]
theorem x_conv {x : Operand} {dd : Option Tmp} {t u ty : TypeId} {pos : String} {aft : Array Edge} {g : Option (Nat × Bool)} {v1 : Value} (hx : ev l x = some v1) (hr : (convert t u v1).run P w = .ok v w') :
    Ex P l w { dst := dd, op := .convert t u x, type := ty, pos := pos, after := aft, guard := g } v w' := fun N a h => by
  simp only [execOp, h.ev hx]
  simp [go_sem, hr]
theorem cell_at {w : World} {b k : Nat} {cs : Array Value} {t : TypeId} {fz : Nat × Nat} {v : Value} (h : w.heap[b]? = some (.cells cs t fz)) (hk : cs[k]? = some v) : w.cell? ((⟨b, 0, none⟩ : Addr).add k) = some v := by
  have e : (⟨b, 0, none⟩ : Addr).add k = ⟨b, k, none⟩ := by unfold Addr.add; split <;> simp_all
  rw [e]
  simp only [World.cell?, h]
  exact hk
/-! #### the order that is drawn, with one writer -/
theorem a_take {i fuel : Nat} {listed : Array Bool} (h : Fm N l a) (hi : ops[i]? = some o) (hd : o.dst = some d) (hN : d < N) (hw : Region.wanted o (yielded ops a.tmps) = true) (hs : Region.noSelect ops = true) (hf : Region.free .any ops listed i = true) (hr : (Region.ready .any ops listed).contains i = true)
    (hx : ∀ w, Ex P l w o v w) (H : ∀ a', Fm N ((d, v) :: l) a' → wpAny P .any ops (NoPanic Q) fuel (listed.setIfInBounds i true) a' w) : wpAny P .any ops (NoPanic Q) (fuel + 1) listed a w := by
  refine wpAny_take (oi := o) (v := v) hi hs hf hr (fun c a w h => h) (.inl ⟨hw, fun w => hx w N a h⟩) ?_
  rw [hd]
  exact H _ (h.put hN v)
theorem a_one {i fuel : Nat} {listed : Array Bool} (h : Fm N l a) (hi : ops[i]? = some o) (hd : o.dst = some d) (hN : d < N) (hw : Region.wanted o (yielded ops a.tmps) = true) (hr : Region.ready .any ops listed = [i])
    (hx : Ex P l w o v w') (H : ∀ a', Fm N ((d, v) :: l) a' → wpAny P .any ops (NoPanic Q) fuel (listed.setIfInBounds i true) a' w') : wpAny P .any ops (NoPanic Q) (fuel + 1) listed a w := by
  refine wpAny_all hr (by simp) ?_
  intro j hj
  have : j = i := by simpa using hj
  subst this
  unfold wpOp
  rw [hi]
  simp only
  rw [if_pos hw]
  left
  unfold Oper.wp
  rw [hx N a h]
  show wpAny P .any ops (NoPanic Q) fuel _ (a.put o.dst v) w'
  rw [hd]
  exact H _ (h.put hN v)
end
end Go.Proofs.YtiaokohnibkmbaaDoor.Sym
