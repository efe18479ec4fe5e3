import Derived.Test.YtbennnoddflggaaDoorProg
import Derived.Test.YtbennnoddflggaaDoorWWords
import Derived.WalkKit
import Derived.Lib.Hide
import Derived.LaidEql
import Derived.WideLaws
import Derived.Maps.OwnSet
import Derived.StringKeys
import Derived.RegionTactic
import Derived.RegionCalls
import Derived.Deep.RegionWith
import Derived.WalkSmall
namespace Go.Proofs.YtbennnoddflggaaDoor.Buck
open Go.RowKit Go.Proofs.YtbennnoddflggaaDoorW.PrintWords
set_option linter.unusedVariables false
set_option linter.unusedSimpArgs false

/-! ### what steps over a cache of buckets do: of no program -/
structure Step where
  act : Int
  name : ByteArray
  good : Bool
  asks : Bool
  found : Bool
  fails : Bool
abbrev Ans := Bool × Bool × Bool × Int
def no : Ans := (false, false, false, 0)
/-- Which buckets are there, which are gone. -/
abbrev St := ByteArray → Option Bool
def upd (f : St) (s : ByteArray) (b : Bool) : St := fun t => if t = s then some b else f t
def errOf (good : Bool) : Int := if good then 0 else 1
/-- A creation, whatever the cache knows. -/
def make (f : St) (s : Step) (asked : Bool) : St × Ans := (if s.good then upd f s.name true else f, (false, true, asked, errOf s.good))
def create (f : St) (s : Step) : St × Ans :=
  if s.name.toList = ([] : List UInt8) then (f, no)
  else match f s.name with
    | some true => (f, no)
    | none => make f s false
    | some false => if s.asks = false then make f s false else if s.fails then (f, (false, false, true, 2)) else if s.found then (upd f s.name true, (false, false, true, 0)) else make (upd f s.name false) s true
def remove (f : St) (s : Step) : St × Ans :=
  if s.name.toList = ([] : List UInt8) then (f, no)
  else if f s.name = some false then (f, (false, false, false, 3))
  else (if s.good then upd f s.name false else f, (false, true, false, errOf s.good))
def mark (f : St) (s : Step) (b : Bool) : St := if s.name.toList = ([] : List UInt8) then f else upd f s.name b
def step (f : St) (s : Step) : St × Ans :=
  if s.act = 0 then (mark f s true, no) else if s.act = 1 then (mark f s false, no) else if s.act = 2 then (f, (decide (f s.name = some false), false, false, 0))
  else if s.act = 3 then create f s else if s.act = 4 then remove f s else (f, no)
def steps (f : St) : List Step → List Ans
  | [] => []
  | s :: l => (step f s).2 :: steps (step f s).1 l

/-! ### the cache's map -/
abbrev key (s : ByteArray) : Lit := .string s.data.toList
theorem mapLaw : Maps.Keyed Tryd.prog 9 := Maps.string_keyed Tryd.underlying9
/-- A map reads so. -/
def Is (D : DataW Unit) (f : St) : Prop := ∀ s : ByteArray, s.size ≤ maxLen → Maps.has D (key s) = (f s).isSome ∧ D.atKey (key s) (.lit (.bool false)) = .lit (.bool ((f s).getD false))
noncomputable abbrev boolElem : Value → Option (DataW Unit × List MemPlace) := plainElem Tryd.prog 4
def MapIs (w : World) (bm n : Nat) (f : St) : Prop := ∃ D, w.ownsMap Tryd.prog 9 boolElem bm n D ∧ Is D f
theorem key_inj {s t : ByteArray} (h : key s = key t) : s = t := by
  cases s with | mk a => cases t with | mk b => simp [key] at h; simp [h]
theorem MapIs.look {w : World} {bm n : Nat} {f : St} (h : MapIs w bm n f) (s : ByteArray) (hs : s.size ≤ maxLen) :
    (Instr.lookup 46 (.map (some bm)) (.string s) true).run Tryd.prog w = .ok (.tuple #[.bool ((f s).getD false), .bool (f s).isSome]) w := by
  obtain ⟨D, ho, hi⟩ := h
  obtain ⟨v, ps, hrun, hR⟩ := ho.look_ok mapLaw Tryd.underlying46 (z := .bool false) (by kernel_rfl) (zd := .lit (.bool false)) (zp := []) (plainElem_bool Tryd.underlying4 false) (WideMaps.keyOf_string_mk Tryd.underlying9 hs)
  obtain ⟨h1, h2⟩ := hi s hs
  rw [h1] at hrun
  rw [h2] at hR
  have : v = .bool ((f s).getD false) := by
    unfold boolElem plainElem at hR
    rw [Tryd.underlying4] at hR
    cases v <;> simp at hR
    rw [hR.1]
  rw [← this]; exact hrun
theorem MapIs.put {w : World} {bm n : Nat} {f : St} (h : MapIs w bm n f) (hn : n < maxLen) (s : ByteArray) (hs : s.size ≤ maxLen) (b : Bool) :
    ∃ w', (Instr.mapUpdate 46 (.map (some bm)) (.string s) (.bool b)).run Tryd.prog w = .ok () w' ∧ MapIs w' bm (n + 1) (upd f s b) ∧ w.grownBy w' (some bm) := by
  obtain ⟨D, ho, hi⟩ := h
  obtain ⟨w', hrun, ho', hg⟩ := ho.update mapLaw Tryd.underlying46 hn (WideMaps.keyOf_string_mk Tryd.underlying9 hs) (plainElem_bool Tryd.underlying4 b)
  refine ⟨w', hrun, ⟨_, ho', fun t ht => ?_⟩, hg⟩
  have hk : WideAt.IsKeyLit (key s) := mapLaw.key (WideMaps.keyOf_string_mk Tryd.underlying9 hs)
  unfold upd
  by_cases e : t = s
  · subst e
    rw [if_pos rfl, Maps.has_put_same ho.isMap hk, Maps.atKey_put_same ho.isMap hk]
    exact ⟨rfl, rfl⟩
  · have hne : key t ≠ key s := fun h => e (key_inj h)
    rw [if_neg e, Maps.has_put_other hne, Maps.atKey_put_other hne]
    exact hi t ht
theorem MapIs.kept {w w' : World} {bm n : Nat} {f : St} (h : MapIs w bm n f) (hb : w'.heap[bm]? = w.heap[bm]?) : MapIs w' bm n f := by
  obtain ⟨D, ⟨es, clock, h1, h2⟩, hi⟩ := h
  exact ⟨D, ⟨es, clock, hb.trans h1, h2⟩, hi⟩
theorem MapIs.lt {w : World} {bm n : Nat} {f : St} (h : MapIs w bm n f) : bm < w.heap.size := by
  obtain ⟨D, ho, _⟩ := h
  exact ho.lt
theorem MapIs.made (w : World) : MapIs (w.alloc (.map #[] 0)) w.heap.size 0 (fun _ => none) :=
  ⟨_, World.ownsMap_made w _ _ _, fun s _ => ⟨rfl, rfl⟩⟩

/-! ### the world of a step -/
abbrev errAt (b : Nat) : Value := .iface 49 (.pointer (some ⟨b, 0, none⟩))
def Err (w : World) (b : Nat) : Prop := ∃ v : Value, w.heap[b]? = some (.cells #[v] 51 (0, 0))
/-- What the package's variable holds. -/
abbrev errAtA (a : Addr) : Value := .iface 49 (.pointer (some a))
def ErrA (w : World) (a : Addr) : Prop := ∃ c t, w.heap[a.block]? = some (.cells c t (0, 0))
def Told (w : World) (eg : Addr) : Prop := w.cell? ⟨0, 0, none⟩ = some (errAtA eg) ∧ ErrA w eg
def errV (e1 e2 : Nat) (eg : Addr) (c : Int) : Value := if c = 0 then .nilIface else if c = 1 then errAt e1 else if c = 2 then errAt e2 else errAtA eg
/-- The blocks of a round: base, cache, map, the variables own and exists, the step, the answer, the errors. -/
structure Bs where
  base : Nat
  bc : Nat
  bm : Nat
  b4 : Nat
  b5 : Nat
  b8 : Nat
  b9 : Nat
  e1 : Nat
  e2 : Nat
  eg : Addr
structure Bs.ok (b : Bs) : Prop where
  nm9 : b.bm ≠ b.b9
  nmc : b.bm ≠ b.bc
  nm4 : b.bm ≠ b.b4
  nm5 : b.bm ≠ b.b5
  nm8 : b.bm ≠ b.b8
  nme1 : b.bm ≠ b.e1
  nme2 : b.bm ≠ b.e2
  n9c : b.b9 ≠ b.bc
  n94 : b.b9 ≠ b.b4
  n95 : b.b9 ≠ b.b5
  n98 : b.b9 ≠ b.b8
  n9e1 : b.b9 ≠ b.e1
  n9e2 : b.b9 ≠ b.e2
  gm : b.base ≤ b.bm
  g9 : b.base ≤ b.b9
  ge1 : b.base ≤ b.e1
  ge2 : b.base ≤ b.e2
  ne : b.e1 ≠ b.e2
  leg : b.eg.block < b.base
  lg : 0 < b.base
structure Env (w0 wS : World) (b : Bs) (f : St) (n : Nat) (s : Step) (a : Ans) (w : World) : Prop where
  cache : w.heap[b.bc]? = some (.cells #[.map (some b.bm)] 48 (0, 0))
  map : MapIs w b.bm n f
  own : w.heap[b.b4]? = some (.cells #[errAt b.e1] 37 (0, 0))
  exs : w.heap[b.b5]? = some (.cells #[errAt b.e2] 37 (0, 0))
  stp : w.heap[b.b8]? = some (.cells #[.int .i64 s.act, .string s.name, .bool s.good, .bool s.asks, .bool s.found, .bool s.fails] 28 (0, 0))
  ans : w.heap[b.b9]? = some (.cells #[.bool a.1, .bool a.2.1, .bool a.2.2.1, .int .i64 a.2.2.2] 30 (0, 0))
  er1 : Err w b.e1
  er2 : Err w b.e2
  told : Told w0 b.eg
  below : Below b.base w0 w
  apart : b.ok
  rest : ∀ k, k ≠ b.bm → k ≠ b.b9 → k < wS.heap.size → w.heap[k]? = wS.heap[k]?
  grow : wS.heap.size ≤ w.heap.size
theorem neq_nil (w : World) : (binOp .neq 37 .nilIface .nilIface).run Tryd.prog w = .ok (.bool false) w := run_neq_nil_nil (P := Tryd.prog) w 37 (by kernel_rfl)
theorem neq_err (w : World) (x : Value) : (binOp .neq 37 (.iface 49 x) .nilIface).run Tryd.prog w = .ok (.bool true) w := run_neq_held_nil (P := Tryd.prog) w 37 49 x (by kernel_rfl)
theorem eql_nil (w : World) : (binOp .eql 37 .nilIface .nilIface).run Tryd.prog w = .ok (.bool true) w := run_eql_nil_nil (P := Tryd.prog) w 37 (by kernel_rfl)
theorem eql_err (w : World) (x : Value) : (binOp .eql 37 (.iface 49 x) .nilIface).run Tryd.prog w = .ok (.bool false) w := run_eql_held_nil (P := Tryd.prog) w 37 49 x (by kernel_rfl)
theorem neqF_nil (w : World) : (binOp .neq 41 .nilFunc .nilFunc).run Tryd.prog w = .ok (.bool false) w := by kernel_rfl
theorem neqF_func (w : World) (x : Fn) (y z : Array Value) : (binOp .neq 41 (.func x y z) .nilFunc).run Tryd.prog w = .ok (.bool true) w := by kernel_rfl
theorem cell_of {w : World} {b : Nat} {cs : Array Value} {t : TypeId} (h : w.heap[b]? = some (.cells cs t (0, 0))) (i : Nat) {v : Value} (hv : cs[i]? = some v) : w.cell? ⟨b, i, none⟩ = some v := by
  simp [World.cell?, h, hv]
theorem free_of {w : World} {b : Nat} {cs : Array Value} {t : TypeId} (h : w.heap[b]? = some (.cells cs t (0, 0))) (i : Nat) : w.frozen? ⟨b, i, none⟩ = false := by
  simp [World.frozen?, h]
variable {w0 wS : World} {b : Bs} {f : St} {n : Nat} {s : Step} {a : Ans} {w : World}
theorem Env.told' (h : Env w0 wS b f n s a w) : w.cell? ⟨0, 0, none⟩ = some (errAtA b.eg) ∧ ErrA w b.eg := by
  obtain ⟨h1, c, t, h2⟩ := h.told
  refine ⟨(h.below.cell (p := ⟨0, 0, none⟩) h.apart.lg).trans h1, c, t, (h.below.block _ h.apart.leg).trans h2⟩
/-- The world turns at the answer alone. -/
theorem Env.set9 (h : Env w0 wS b f n s a w) (i : Nat) (v : Value) (a' : Ans) (hv : (#[Value.bool a.1, .bool a.2.1, .bool a.2.2.1, .int .i64 a.2.2.2] : Array Value).setIfInBounds i v = #[.bool a'.1, .bool a'.2.1, .bool a'.2.2.1, .int .i64 a'.2.2.2]) :
    Env w0 wS b f n s a' (w.setCell ⟨b.b9, i, none⟩ v) := by
  have ho : ∀ k, k ≠ b.b9 → (w.setCell ⟨b.b9, i, none⟩ v).heap[k]? = w.heap[k]? := fun k hk => Below.heap_setCell w _ v k hk
  exact {
    cache := (ho _ h.apart.n9c.symm).trans h.cache
    map := h.map.kept (ho _ h.apart.nm9)
    own := (ho _ h.apart.n94.symm).trans h.own
    exs := (ho _ h.apart.n95.symm).trans h.exs
    stp := (ho _ h.apart.n98.symm).trans h.stp
    ans := by rw [← hv]; exact blk_put h.ans i v (by
      have := congrArg Array.size hv
      simp) 
    er1 := by obtain ⟨u, hu⟩ := h.er1; exact ⟨u, (ho _ h.apart.n9e1.symm).trans hu⟩
    er2 := by obtain ⟨u, hu⟩ := h.er2; exact ⟨u, (ho _ h.apart.n9e2.symm).trans hu⟩
    told := h.told
    below := h.below.setCell h.apart.g9 v
    apart := h.apart
    rest := fun k h1 h2 h3 => (ho k h2).trans (h.rest k h1 h2 h3)
    grow := by simpa using h.grow }
theorem Env.drew (h : Env w0 wS b f n s a w) : Env w0 wS b f n s a w.drew := ⟨h.cache, h.map, h.own, h.exs, h.stp, h.ans, h.er1, h.er2, h.told, h.below.drew, h.apart, h.rest, h.grow⟩
/-- A store into the map. -/
theorem Env.put (h : Env w0 wS b f n s a w) (hn : n < maxLen) (hs : s.name.size ≤ maxLen) (x : Bool) :
    ∃ w', (Instr.mapUpdate 46 (.map (some b.bm)) (.string s.name) (.bool x)).run Tryd.prog w = .ok () w' ∧ Env w0 wS b (upd f s.name x) (n + 1) s a w' := by
  obtain ⟨w', hrun, hm, hg⟩ := h.map.put hn s.name hs x
  have ho : ∀ k, k ≠ b.bm → ∀ o, w.heap[k]? = some o → w'.heap[k]? = some o := fun k hk o hh => (hg.block k (Array.getElem?_eq_some_iff.1 hh).1 (fun e => hk (by injection e))).trans hh
  refine ⟨w', hrun, ?_⟩
  exact {
    cache := ho _ h.apart.nmc.symm _ h.cache
    map := hm
    own := ho _ h.apart.nm4.symm _ h.own
    exs := ho _ h.apart.nm5.symm _ h.exs
    stp := ho _ h.apart.nm8.symm _ h.stp
    ans := ho _ h.apart.nm9.symm _ h.ans
    er1 := by obtain ⟨u, hu⟩ := h.er1; exact ⟨u, ho _ h.apart.nme1.symm _ hu⟩
    er2 := by obtain ⟨u, hu⟩ := h.er2; exact ⟨u, ho _ h.apart.nme2.symm _ hu⟩
    told := h.told
    below := h.below.trans ⟨hg.os, hg.tape, hg.output, hg.size, fun k hk => hg.block k (Nat.lt_of_lt_of_le hk (Nat.le_trans h.apart.gm (Nat.le_of_lt h.map.lt))) (fun e => by have := h.apart.gm; injection e with e; omega)⟩
    apart := h.apart
    rest := fun k h1 h2 h3 => (hg.block k (Nat.lt_of_lt_of_le h3 h.grow) (fun e => h1 (by injection e))).trans (h.rest k h1 h2 h3)
    grow := Nat.le_trans h.grow hg.size }

/-! ### the two functions that are handed over -/
set_option maxHeartbeats 800000 in
theorem act_any (h : Env w0 wS b f n s a w) :
    Calls Tryd.prog 13 #[.pointer (some ⟨b.b9, 0, none⟩), .pointer (some ⟨b.b8, 0, none⟩), .pointer (some ⟨b.b4, 0, none⟩)] w fun e w' => e = .returned (if s.good then .nilIface else errAt b.e1) ∧ Env w0 wS b f n s (a.1, true, a.2.2.1, a.2.2.2) w' := by
  have HE := Lib.hid (h.set9 1 (.bool true) (a.1, true, a.2.2.1, a.2.2.2) rfl)
  have c9 := cell_of h.ans 1 rfl
  have f9 := free_of h.ans 1
  have c8 := cell_of h.stp 2 rfl
  have c4 := cell_of h.own 0 rfl
  have n98 := h.apart.n98
  have n94 := h.apart.n94
  cases hg : s.good with
  | true =>
    rw [hg] at c8
    clear h hg
    go_enter Tryd.func13, Tryd.ntmps13
    go_wp2
    go_ret
    exact ⟨rfl, HE.out⟩
  | false =>
    rw [hg] at c8
    clear h hg
    go_enter Tryd.func13, Tryd.ntmps13
    go_wp2
    go_ret
    exact ⟨rfl, HE.out⟩

set_option maxHeartbeats 800000 in
theorem ask_any (h : Env w0 wS b f n s a w) :
    Calls Tryd.prog 14 #[.pointer (some ⟨b.b9, 0, none⟩), .pointer (some ⟨b.b8, 0, none⟩), .pointer (some ⟨b.b5, 0, none⟩)] w fun e w' => e = .returned (.tuple #[.bool s.found, if s.fails then errAt b.e2 else .nilIface]) ∧ Env w0 wS b f n s (a.1, a.2.1, true, a.2.2.2) w' := by
  have HE := Lib.hid (h.set9 2 (.bool true) (a.1, a.2.1, true, a.2.2.2) rfl)
  have c9 := cell_of h.ans 2 rfl
  have f9 := free_of h.ans 2
  have c8 := cell_of h.stp 5 rfl
  have c84 := cell_of h.stp 4 rfl
  have c5 := cell_of h.exs 0 rfl
  have n98 := h.apart.n98
  have n95 := h.apart.n95
  cases hg : s.fails with
  | true =>
    rw [hg] at c8
    clear h hg
    generalize s.found = fd at *
    go_enter Tryd.func14, Tryd.ntmps14
    go_wp2
    go_region
    go_wp2
    go_ret2
    exact ⟨rfl, HE.out.drew⟩
  | false =>
    rw [hg] at c8
    clear h hg
    generalize s.found = fd at *
    go_enter Tryd.func14, Tryd.ntmps14
    go_wp2
    go_ret2
    exact ⟨rfl, HE.out⟩

theorem act_good (h : Env w0 wS b f n s a w) (hg : s.good = true) :
    Calls Tryd.prog 13 #[.pointer (some ⟨b.b9, 0, none⟩), .pointer (some ⟨b.b8, 0, none⟩), .pointer (some ⟨b.b4, 0, none⟩)] w fun e w' => e = .returned .nilIface ∧ Env w0 wS b f n s (a.1, true, a.2.2.1, a.2.2.2) w' :=
  (act_any h).mono fun e w' ⟨h1, h2⟩ => ⟨by rw [h1, hg]; rfl, h2⟩
theorem act_bad (h : Env w0 wS b f n s a w) (hg : s.good = false) :
    Calls Tryd.prog 13 #[.pointer (some ⟨b.b9, 0, none⟩), .pointer (some ⟨b.b8, 0, none⟩), .pointer (some ⟨b.b4, 0, none⟩)] w fun e w' => e = .returned (errAt b.e1) ∧ Env w0 wS b f n s (a.1, true, a.2.2.1, a.2.2.2) w' :=
  (act_any h).mono fun e w' ⟨h1, h2⟩ => ⟨by rw [h1, hg]; rfl, h2⟩
theorem ask_is (h : Env w0 wS b f n s a w) (fl fd : Bool) (hg : s.fails = fl) (hd : s.found = fd) (v : Value) (hv : v = if fl = true then errAt b.e2 else .nilIface) :
    Calls Tryd.prog 14 #[.pointer (some ⟨b.b9, 0, none⟩), .pointer (some ⟨b.b8, 0, none⟩), .pointer (some ⟨b.b5, 0, none⟩)] w fun e w' => e = .returned (.tuple #[.bool fd, v]) ∧ Env w0 wS b f n s (a.1, a.2.1, true, a.2.2.2) w' :=
  (ask_any h).mono fun e w' ⟨h1, h2⟩ => ⟨by rw [h1, hg, hd, hv], h2⟩

/-! ### Create -/
def CPost (w0 wS : World) (b : Bs) (n : Nat) (s : Step) (r : St × Ans) (e : Ending) (w' : World) : Prop :=
  e = .returned (errV b.e1 b.e2 b.eg r.2.2.2.2) ∧ ∃ n', n' ≤ n + 2 ∧ Env w0 wS b r.1 n' s (r.2.1, r.2.2.1, r.2.2.2.1, 0) w'
def askV (b : Bs) (s : Step) : Value := if s.asks = true then .func (.func 14) #[] #[.pointer (some ⟨b.b9, 0, none⟩), .pointer (some ⟨b.b8, 0, none⟩), .pointer (some ⟨b.b5, 0, none⟩)] else .nilFunc
abbrev actV (b : Bs) : Value := .func (.func 13) #[] #[.pointer (some ⟨b.b9, 0, none⟩), .pointer (some ⟨b.b8, 0, none⟩), .pointer (some ⟨b.b4, 0, none⟩)]

theorem upd_same (f : St) (s : ByteArray) (b : Bool) : upd f s b s = some b := if_pos rfl
set_option maxHeartbeats 1600000 in
theorem create_new_good (h : Env w0 wS b f n s no w) (hn : n + 2 < maxLen) (hs : s.name.size ≤ maxLen) (he : s.name.toList ≠ ([] : List UInt8)) (hf : f s.name = none) (hg : s.good = true) :
    Calls Tryd.prog 18 #[.pointer (some ⟨b.bc, 0, none⟩), .string s.name, actV b, askV b s] w (CPost w0 wS b n s (create f s)) := by
  have hb : (s.name.toList == ([] : List UInt8)) = false := beq_eq_false_iff_ne.mpr he
  have cc := cell_of h.cache 0 (v := .map (some b.bm)) rfl
  have hlk := h.map.look s.name hs
  rw [hf] at hlk
  have HN := Lib.hid hn
  have HS := Lib.hid hs
  have HE := Lib.hid h
  rw [show create f s = (upd f s.name true, (false, true, false, 0)) by unfold create; rw [if_neg he, hf]; simp [make, hg, errOf]]
  have hlk' : (Instr.lookup 46 (.map (some b.bm)) (.string s.name) true).run Tryd.prog w = .ok (.tuple #[.bool false, .bool false]) w := hlk
  clear hlk
  generalize askV b s = av at *
  clear h he hf hn hs
  have q1 := neq_nil
  have q2 := neq_err
  have q3 := eql_nil
  have q4 := eql_err
  have q5 := neqF_nil
  have q6 := neqF_func
  go_enter Tryd.func18, Tryd.ntmps18
  go_wp2_with (first | (go_at_call 13; (with_reducible refine (act_good HE.out hg).mono ?_); rintro e w5 ⟨rfl, he5⟩; have cc5 := cell_of he5.cache 0 (v := .map (some b.bm)) rfl; obtain ⟨w6, hup6, he6⟩ := he5.put (by have := HN.out; omega) HS.out true; have HE6 := Lib.hid he6; clear he5 he6))
  go_ret
  exact ⟨rfl, n + 1, by omega, HE6.out⟩
set_option maxHeartbeats 1600000 in
theorem create_new_bad (h : Env w0 wS b f n s no w) (hn : n + 2 < maxLen) (hs : s.name.size ≤ maxLen) (he : s.name.toList ≠ ([] : List UInt8)) (hf : f s.name = none) (hg : s.good = false) :
    Calls Tryd.prog 18 #[.pointer (some ⟨b.bc, 0, none⟩), .string s.name, actV b, askV b s] w (CPost w0 wS b n s (create f s)) := by
  have hb : (s.name.toList == ([] : List UInt8)) = false := beq_eq_false_iff_ne.mpr he
  have cc := cell_of h.cache 0 (v := .map (some b.bm)) rfl
  have hlk := h.map.look s.name hs
  rw [hf] at hlk
  have HN := Lib.hid hn
  have HS := Lib.hid hs
  have HE := Lib.hid h
  rw [show create f s = (f, (false, true, false, 1)) by unfold create; rw [if_neg he, hf]; simp [make, hg, errOf]]
  have hlk' : (Instr.lookup 46 (.map (some b.bm)) (.string s.name) true).run Tryd.prog w = .ok (.tuple #[.bool false, .bool false]) w := hlk
  clear hlk
  generalize askV b s = av at *
  clear h he hf hn hs
  have q1 := neq_nil
  have q2 := neq_err
  have q3 := eql_nil
  have q4 := eql_err
  have q5 := neqF_nil
  have q6 := neqF_func
  go_enter Tryd.func18, Tryd.ntmps18
  go_wp2_with (first | (go_at_call 13; (with_reducible refine (act_bad HE.out hg).mono ?_); rintro e w5 ⟨rfl, he5⟩; have HE5 := Lib.hid he5; clear he5))
  go_ret
  exact ⟨rfl, n, by omega, HE5.out⟩
set_option maxHeartbeats 1600000 in
theorem create_gone_good (h : Env w0 wS b f n s no w) (hn : n + 2 < maxLen) (hs : s.name.size ≤ maxLen) (he : s.name.toList ≠ ([] : List UInt8)) (hf : f s.name = some false) (ha : s.asks = false) (hg : s.good = true) :
    Calls Tryd.prog 18 #[.pointer (some ⟨b.bc, 0, none⟩), .string s.name, actV b, askV b s] w (CPost w0 wS b n s (create f s)) := by
  have hb : (s.name.toList == ([] : List UInt8)) = false := beq_eq_false_iff_ne.mpr he
  have cc := cell_of h.cache 0 (v := .map (some b.bm)) rfl
  have hlk := h.map.look s.name hs
  rw [hf] at hlk
  have HN := Lib.hid hn
  have HS := Lib.hid hs
  have HE := Lib.hid h
  rw [show create f s = (upd f s.name true, (false, true, false, 0)) by unfold create; rw [if_neg he, hf]; simp [make, hg, errOf, ha]]
  have hlk' : (Instr.lookup 46 (.map (some b.bm)) (.string s.name) true).run Tryd.prog w = .ok (.tuple #[.bool false, .bool true]) w := hlk
  clear hlk
  rw [show askV b s = .nilFunc by unfold askV; rw [ha]; rfl]
  clear h he hf hn hs
  have q1 := neq_nil
  have q2 := neq_err
  have q3 := eql_nil
  have q4 := eql_err
  have q5 := neqF_nil
  have q6 := neqF_func
  go_enter Tryd.func18, Tryd.ntmps18
  go_wp2_with (first | (go_at_call 13; (with_reducible refine (act_good HE.out hg).mono ?_); rintro e w5 ⟨rfl, he5⟩; have cc5 := cell_of he5.cache 0 (v := .map (some b.bm)) rfl; obtain ⟨w6, hup6, he6⟩ := he5.put (by have := HN.out; omega) HS.out true; have HE6 := Lib.hid he6; clear he5 he6))
  go_ret
  exact ⟨rfl, n + 1, by omega, HE6.out⟩
set_option maxHeartbeats 1600000 in
theorem create_gone_bad (h : Env w0 wS b f n s no w) (hn : n + 2 < maxLen) (hs : s.name.size ≤ maxLen) (he : s.name.toList ≠ ([] : List UInt8)) (hf : f s.name = some false) (ha : s.asks = false) (hg : s.good = false) :
    Calls Tryd.prog 18 #[.pointer (some ⟨b.bc, 0, none⟩), .string s.name, actV b, askV b s] w (CPost w0 wS b n s (create f s)) := by
  have hb : (s.name.toList == ([] : List UInt8)) = false := beq_eq_false_iff_ne.mpr he
  have cc := cell_of h.cache 0 (v := .map (some b.bm)) rfl
  have hlk := h.map.look s.name hs
  rw [hf] at hlk
  have HN := Lib.hid hn
  have HS := Lib.hid hs
  have HE := Lib.hid h
  rw [show create f s = (f, (false, true, false, 1)) by unfold create; rw [if_neg he, hf]; simp [make, hg, errOf, ha]]
  have hlk' : (Instr.lookup 46 (.map (some b.bm)) (.string s.name) true).run Tryd.prog w = .ok (.tuple #[.bool false, .bool true]) w := hlk
  clear hlk
  rw [show askV b s = .nilFunc by unfold askV; rw [ha]; rfl]
  clear h he hf hn hs
  have q1 := neq_nil
  have q2 := neq_err
  have q3 := eql_nil
  have q4 := eql_err
  have q5 := neqF_nil
  have q6 := neqF_func
  go_enter Tryd.func18, Tryd.ntmps18
  go_wp2_with (first | (go_at_call 13; (with_reducible refine (act_bad HE.out hg).mono ?_); rintro e w5 ⟨rfl, he5⟩; have HE5 := Lib.hid he5; clear he5))
  go_ret
  exact ⟨rfl, n, by omega, HE5.out⟩
set_option maxHeartbeats 1600000 in
theorem create_ask_fails (h : Env w0 wS b f n s no w) (hn : n + 2 < maxLen) (hs : s.name.size ≤ maxLen) (he : s.name.toList ≠ ([] : List UInt8)) (hf : f s.name = some false) (ha : s.asks = true) (fd : Bool) (hfl : s.fails = true) (hfd : s.found = fd) :
    Calls Tryd.prog 18 #[.pointer (some ⟨b.bc, 0, none⟩), .string s.name, actV b, askV b s] w (CPost w0 wS b n s (create f s)) := by
  have hb : (s.name.toList == ([] : List UInt8)) = false := beq_eq_false_iff_ne.mpr he
  have cc := cell_of h.cache 0 (v := .map (some b.bm)) rfl
  have hlk := h.map.look s.name hs
  rw [hf] at hlk
  have HN := Lib.hid hn
  have HS := Lib.hid hs
  have HE := Lib.hid h
  rw [show create f s = (f, (false, false, true, 2)) by unfold create; rw [if_neg he, hf]; simp [ha, hfl]]
  have hlk' : (Instr.lookup 46 (.map (some b.bm)) (.string s.name) true).run Tryd.prog w = .ok (.tuple #[.bool false, .bool true]) w := hlk
  clear hlk
  rw [show askV b s = .func (.func 14) #[] #[.pointer (some ⟨b.b9, 0, none⟩), .pointer (some ⟨b.b8, 0, none⟩), .pointer (some ⟨b.b5, 0, none⟩)] by unfold askV; rw [ha]; rfl]
  clear h he hf hn hs
  have q1 := neq_nil
  have q2 := neq_err
  have q3 := eql_nil
  have q4 := eql_err
  have q5 := neqF_nil
  have q6 := neqF_func
  go_enter Tryd.func18, Tryd.ntmps18
  go_wp2_with (first | (go_at_call 14; (with_reducible refine (ask_is HE.out true fd hfl hfd (errAt b.e2) rfl).mono ?_); rintro e w1 ⟨rfl, he1⟩; have HE1 := Lib.hid he1; clear he1))
  go_ret
  exact ⟨rfl, n, by omega, HE1.out⟩
set_option maxHeartbeats 1600000 in
theorem create_ask_found (h : Env w0 wS b f n s no w) (hn : n + 2 < maxLen) (hs : s.name.size ≤ maxLen) (he : s.name.toList ≠ ([] : List UInt8)) (hf : f s.name = some false) (ha : s.asks = true) (hfl : s.fails = false) (hfd : s.found = true) :
    Calls Tryd.prog 18 #[.pointer (some ⟨b.bc, 0, none⟩), .string s.name, actV b, askV b s] w (CPost w0 wS b n s (create f s)) := by
  have hb : (s.name.toList == ([] : List UInt8)) = false := beq_eq_false_iff_ne.mpr he
  have cc := cell_of h.cache 0 (v := .map (some b.bm)) rfl
  have hlk := h.map.look s.name hs
  rw [hf] at hlk
  have HN := Lib.hid hn
  have HS := Lib.hid hs
  have HE := Lib.hid h
  rw [show create f s = (upd f s.name true, (false, false, true, 0)) by unfold create; rw [if_neg he, hf]; simp [ha, hfl, hfd]]
  have hlk' : (Instr.lookup 46 (.map (some b.bm)) (.string s.name) true).run Tryd.prog w = .ok (.tuple #[.bool false, .bool true]) w := hlk
  clear hlk
  rw [show askV b s = .func (.func 14) #[] #[.pointer (some ⟨b.b9, 0, none⟩), .pointer (some ⟨b.b8, 0, none⟩), .pointer (some ⟨b.b5, 0, none⟩)] by unfold askV; rw [ha]; rfl]
  clear h he hf hn hs
  have q1 := neq_nil
  have q2 := neq_err
  have q3 := eql_nil
  have q4 := eql_err
  have q5 := neqF_nil
  have q6 := neqF_func
  go_enter Tryd.func18, Tryd.ntmps18
  go_wp2_with (first | (go_at_call 14; (with_reducible refine (ask_is HE.out false true hfl hfd .nilIface rfl).mono ?_); rintro e w1 ⟨rfl, he1⟩; have cc1 := cell_of he1.cache 0 (v := .map (some b.bm)) rfl; obtain ⟨w2, hup2, he2⟩ := he1.put (by have := HN.out; omega) HS.out true; have cc2 := cell_of he2.cache 0 (v := .map (some b.bm)) rfl; have hlk2 := he2.map.look s.name HS.out; rw [upd_same] at hlk2; have HE2 := Lib.hid he2; clear he1 he2))
  go_ret
  exact ⟨rfl, n + 1, by omega, HE2.out⟩
set_option maxHeartbeats 1600000 in
theorem create_ask_good (h : Env w0 wS b f n s no w) (hn : n + 2 < maxLen) (hs : s.name.size ≤ maxLen) (he : s.name.toList ≠ ([] : List UInt8)) (hf : f s.name = some false) (ha : s.asks = true) (hfl : s.fails = false) (hfd : s.found = false) (hg : s.good = true) :
    Calls Tryd.prog 18 #[.pointer (some ⟨b.bc, 0, none⟩), .string s.name, actV b, askV b s] w (CPost w0 wS b n s (create f s)) := by
  have hb : (s.name.toList == ([] : List UInt8)) = false := beq_eq_false_iff_ne.mpr he
  have cc := cell_of h.cache 0 (v := .map (some b.bm)) rfl
  have hlk := h.map.look s.name hs
  rw [hf] at hlk
  have HN := Lib.hid hn
  have HS := Lib.hid hs
  have HE := Lib.hid h
  rw [show create f s = (upd (upd f s.name false) s.name true, (false, true, true, 0)) by unfold create; rw [if_neg he, hf]; simp [ha, hfl, hfd, make, hg, errOf]]
  have hlk' : (Instr.lookup 46 (.map (some b.bm)) (.string s.name) true).run Tryd.prog w = .ok (.tuple #[.bool false, .bool true]) w := hlk
  clear hlk
  rw [show askV b s = .func (.func 14) #[] #[.pointer (some ⟨b.b9, 0, none⟩), .pointer (some ⟨b.b8, 0, none⟩), .pointer (some ⟨b.b5, 0, none⟩)] by unfold askV; rw [ha]; rfl]
  clear h he hf hn hs
  have q1 := neq_nil
  have q2 := neq_err
  have q3 := eql_nil
  have q4 := eql_err
  have q5 := neqF_nil
  have q6 := neqF_func
  go_enter Tryd.func18, Tryd.ntmps18
  go_wp2_with (first | (go_at_call 14; (with_reducible refine (ask_is HE.out false false hfl hfd .nilIface rfl).mono ?_); rintro e w1 ⟨rfl, he1⟩; have cc1 := cell_of he1.cache 0 (v := .map (some b.bm)) rfl; obtain ⟨w2, hup2, he2⟩ := he1.put (by have := HN.out; omega) HS.out false; have cc2 := cell_of he2.cache 0 (v := .map (some b.bm)) rfl; have hlk2 := he2.map.look s.name HS.out; rw [upd_same] at hlk2; have HE2 := Lib.hid he2; clear he1 he2) | (go_at_call 13; (with_reducible refine (act_good HE2.out hg).mono ?_); rintro e w5 ⟨rfl, he5⟩; have cc5 := cell_of he5.cache 0 (v := .map (some b.bm)) rfl; obtain ⟨w6, hup6, he6⟩ := he5.put (by have := HN.out; omega) HS.out true; have HE6 := Lib.hid he6; clear he5 he6))
  go_ret
  exact ⟨rfl, n + 2, by omega, HE6.out⟩
set_option maxHeartbeats 1600000 in
theorem create_ask_bad (h : Env w0 wS b f n s no w) (hn : n + 2 < maxLen) (hs : s.name.size ≤ maxLen) (he : s.name.toList ≠ ([] : List UInt8)) (hf : f s.name = some false) (ha : s.asks = true) (hfl : s.fails = false) (hfd : s.found = false) (hg : s.good = false) :
    Calls Tryd.prog 18 #[.pointer (some ⟨b.bc, 0, none⟩), .string s.name, actV b, askV b s] w (CPost w0 wS b n s (create f s)) := by
  have hb : (s.name.toList == ([] : List UInt8)) = false := beq_eq_false_iff_ne.mpr he
  have cc := cell_of h.cache 0 (v := .map (some b.bm)) rfl
  have hlk := h.map.look s.name hs
  rw [hf] at hlk
  have HN := Lib.hid hn
  have HS := Lib.hid hs
  have HE := Lib.hid h
  rw [show create f s = (upd f s.name false, (false, true, true, 1)) by unfold create; rw [if_neg he, hf]; simp [ha, hfl, hfd, make, hg, errOf]]
  have hlk' : (Instr.lookup 46 (.map (some b.bm)) (.string s.name) true).run Tryd.prog w = .ok (.tuple #[.bool false, .bool true]) w := hlk
  clear hlk
  rw [show askV b s = .func (.func 14) #[] #[.pointer (some ⟨b.b9, 0, none⟩), .pointer (some ⟨b.b8, 0, none⟩), .pointer (some ⟨b.b5, 0, none⟩)] by unfold askV; rw [ha]; rfl]
  clear h he hf hn hs
  have q1 := neq_nil
  have q2 := neq_err
  have q3 := eql_nil
  have q4 := eql_err
  have q5 := neqF_nil
  have q6 := neqF_func
  go_enter Tryd.func18, Tryd.ntmps18
  go_wp2_with (first | (go_at_call 14; (with_reducible refine (ask_is HE.out false false hfl hfd .nilIface rfl).mono ?_); rintro e w1 ⟨rfl, he1⟩; have cc1 := cell_of he1.cache 0 (v := .map (some b.bm)) rfl; obtain ⟨w2, hup2, he2⟩ := he1.put (by have := HN.out; omega) HS.out false; have cc2 := cell_of he2.cache 0 (v := .map (some b.bm)) rfl; have hlk2 := he2.map.look s.name HS.out; rw [upd_same] at hlk2; have HE2 := Lib.hid he2; clear he1 he2) | (go_at_call 13; (with_reducible refine (act_bad HE2.out hg).mono ?_); rintro e w5 ⟨rfl, he5⟩; have HE5 := Lib.hid he5; clear he5))
  go_ret
  exact ⟨rfl, n + 1, by omega, HE5.out⟩
set_option maxHeartbeats 1600000 in
theorem create_any (h : Env w0 wS b f n s no w) (hn : n + 2 < maxLen) (hs : s.name.size ≤ maxLen) :
    Calls Tryd.prog 18 #[.pointer (some ⟨b.bc, 0, none⟩), .string s.name, actV b, askV b s] w (CPost w0 wS b n s (create f s)) := by
  by_cases he : s.name.toList = ([] : List UInt8)
  · have hc : create f s = (f, no) := by unfold create; rw [if_pos he]
    rw [hc]
    have hb := beq_iff_eq.mpr he
    have HE := Lib.hid h
    clear h he hc
    generalize askV b s = av at *
    go_enter Tryd.func18, Tryd.ntmps18
    go_wp2
    go_ret
    exact ⟨rfl, n, by omega, HE.out⟩
  rcases hf : f s.name with _ | st
  · cases hg : s.good with
    | true => exact create_new_good h hn hs he hf hg
    | false => exact create_new_bad h hn hs he hf hg
  · cases st with
    | true =>
      have hb : (s.name.toList == ([] : List UInt8)) = false := beq_eq_false_iff_ne.mpr he
      have cc := cell_of h.cache 0 (v := .map (some b.bm)) rfl
      have hlk := h.map.look s.name hs
      have hc : create f s = (f, no) := by unfold create; rw [if_neg he, hf]
      rw [hc]
      rw [hf] at hlk
      have HE := Lib.hid h
      have hlk' : (Instr.lookup 46 (.map (some b.bm)) (.string s.name) true).run Tryd.prog w = .ok (.tuple #[.bool true, .bool true]) w := hlk
      clear h he hc hf hn hs hlk
      generalize askV b s = av at *
      go_enter Tryd.func18, Tryd.ntmps18
      go_wp2
      go_ret
      exact ⟨rfl, n, by omega, HE.out⟩
    | false =>
      cases ha : s.asks with
      | false =>
        cases hg : s.good with
        | true => exact create_gone_good h hn hs he hf ha hg
        | false => exact create_gone_bad h hn hs he hf ha hg
      | true =>
        cases hfl : s.fails with
        | true => exact create_ask_fails h hn hs he hf ha s.found hfl rfl
        | false =>
          cases hfd : s.found with
          | true => exact create_ask_found h hn hs he hf ha hfl hfd
          | false =>
            cases hg : s.good with
            | true => exact create_ask_good h hn hs he hf ha hfl hfd hg
            | false => exact create_ask_bad h hn hs he hf ha hfl hfd hg
end Go.Proofs.YtbennnoddflggaaDoor.Buck
