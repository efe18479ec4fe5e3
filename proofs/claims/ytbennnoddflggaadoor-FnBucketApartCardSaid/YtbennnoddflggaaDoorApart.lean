import Derived.Test.YtbennnoddflggaaDoorBula
import Derived.Deep.RegionHeld3
namespace Go.Proofs.YtbennnoddflggaaDoor.Buck
open Go.RowKit Go.Proofs.YtbennnoddflggaaDoor.PFnBucketApart Go.Proofs.YtbennnoddflggaaDoorW.PrintWords Go.Proofs.YtbennnoddflggaaDoorW.PrintMore Go.Proofs.YtbennnoddflggaaDoorW.PrintLast
set_option linter.unusedVariables false
set_option linter.unusedSimpArgs false
theorem ks_mk (w : World) (base : Nat) (ok : Nat → Prop) (x : Six) : ks.M w base ok x [.int .i64 x.1, .string x.2.1, .bool x.2.2.1, .bool x.2.2.2.1, .bool x.2.2.2.2.1, .bool x.2.2.2.2.2] :=
  ⟨[.int .i64 x.1], _, rfl, rfl, ⟨[.string x.2.1], _, rfl, rfl, ⟨[.bool x.2.2.1], _, rfl, rfl, ⟨[.bool x.2.2.2.1], _, rfl, rfl, ⟨[.bool x.2.2.2.2.1], _, rfl, rfl, rfl⟩⟩⟩⟩⟩
theorem info28 : (Tryd.prog.info? 28).map (fun i => (i.zero, i.size, i.bytes)) = some (some (.agg #[(.int .i64 0), (.string ⟨#[]⟩), (.bool false), (.bool false), (.bool false), (.bool false)]), 6, 32) := by kernel_rfl
/-- The steps over one bucket, and their answers among all, behind j steps. -/
def ownOf (nm : ByteArray) (l : List Six) : List Six := l.filter fun x => decide (x.2.1 = nm)
def wantOf (nm : ByteArray) (l : List Six) (all : List Ans) : List Ans := ((l.zip all).filter fun p => decide (p.1.2.1 = nm)).map (·.2)
theorem own_step (nm : ByteArray) (l : List Six) (j : Nat) (h : j < l.length) : ownOf nm (l.take (j + 1)) = if l[j].2.1 = nm then ownOf nm (l.take j) ++ [l[j]] else ownOf nm (l.take j) := by
  unfold ownOf
  rw [List.take_succ_eq_append_getElem h, List.filter_append]
  by_cases e : l[j].2.1 = nm
  · rw [if_pos e, List.filter_cons, if_pos (by simpa using e)]; rfl
  · rw [if_neg e, List.filter_cons, if_neg (by simpa using e)]; simp
theorem want_step (nm : ByteArray) (l : List Six) (all : List Ans) (j : Nat) (h : j < l.length) (h2 : j < all.length) :
    wantOf nm (l.take (j + 1)) (all.take (j + 1)) = if l[j].2.1 = nm then wantOf nm (l.take j) (all.take j) ++ [all[j]] else wantOf nm (l.take j) (all.take j) := by
  unfold wantOf
  rw [List.take_succ_eq_append_getElem h, List.take_succ_eq_append_getElem h2, List.zip_append (by simp; omega), List.filter_append, List.map_append]
  by_cases e : l[j].2.1 = nm
  · rw [if_pos e]; simp [List.filter_cons, e]
  · rw [if_neg e]; simp [List.filter_cons, e]
theorem apart_six (nm : ByteArray) (l : List Six) : steps (fun _ => none) ((ownOf nm l).map toStep) = wantOf nm l (steps (fun _ => none) (l.map toStep)) := by
  have h := apart nm (l.map toStep) (fun _ => none) (fun _ => none) rfl
  have e1 : (l.map toStep).filter (fun s => decide (s.name = nm)) = (ownOf nm l).map toStep := by
    unfold ownOf
    rw [List.filter_map]; rfl
  rw [e1] at h
  rw [h]
  unfold wantOf
  have e2 : (l.map toStep).zip (steps (fun _ => none) (l.map toStep)) = (l.zip (steps (fun _ => none) (l.map toStep))).map (fun p => (toStep p.1, p.2)) := by
    rw [List.zip_map_left]; rfl
  rw [e2, List.filter_map, List.map_map]; rfl

section
variable {P : Program} {ops : Array Oper} {o : Oper} {a : Act} {Q : Exit → Act → World → Prop} {K : Act → World → Prop} {E : Prop} {α : Type}
/-- append of one element whose block lies wherever, as one step of a region that draws. -/
theorem append_at (d : Kd α) {w : World} (base : Nat) (hgd : o.guard = none) (s x : Operand) (t e : TypeId) (z : Value) (bytes : Nat)
    (ho : o.op = .call { callee := .builtin .append, args := #[s, x], argTypes := #[t, t] })
    (ht : P.underlying t = some (.slice e)) (hinfo : (P.info? e).map (fun i => (i.zero, i.size, i.bytes)) = some (some z, d.sz, bytes)) (hz : z.cells.size = d.sz) (hs0 : 0 < d.sz) (hb0 : 0 < bytes)
    (v : Value) (xs : List α) (p : α) (cs : List Value) (hs : a.eval s = v) (g : Nat) (hx : a.eval x = .slice (some ⟨g, 0, none⟩) 1 1) (hgc : w.heap[g]? = some (.cells cs.toArray e (0, 0))) (hp : d.M w base (fun _ => False) p cs)
    (HO : d.R e w base (fun _ => True) v xs) (hbase : base ≤ w.heap.size) (hl : (xs.length + 1) * bytes ≤ 140737488355328)
    (h : ∀ v1 w1, d.R e w1 base (fun _ => True) v1 (xs ++ [p]) → w.grownBy w1 v.ownBlock → K (a.put o.dst v1) w1) :
    if Region.wanted o (yielded ops a.tmps) = true then Oper.wp P o a w K Q else E := by
  have hw : Region.wanted o (yielded ops a.tmps) = true := by simp [Region.wanted, hgd]
  obtain ⟨h0, inner, hown, hr⟩ := HO
  obtain ⟨i0, hi, hzz⟩ := Option.map_eq_some_iff.1 hinfo
  simp only [Prod.mk.injEq] at hzz
  obtain ⟨hz0, hz1, hz2⟩ := hzz
  have hlen : xs.length + 1 ≤ 140737488355328 := Nat.le_trans (Nat.le_mul_of_pos_right _ hb0) hl
  have hcl := d.K_len (d.K_of_M hp)
  rw [if_pos hw]
  obtain ⟨v1, w1, hrun, hown1, hg1, _, hat⟩ := run_append_own_at (P := P) w base t o.type e i0 z d.sz bytes ht hi hz0 hz1 hz2 hz hs0 v xs.length inner hown ⟨g, 0, none⟩ 1 1 cs (by rw [hcl]; simp)
    (by simpa using World.news_of_block (cs := cs.toArray) (t := e) (fr := (0, 0)) hgc) (d.K_one (d.K_of_M hp)) (by simp only [maxLen]; omega) hl hbase
  unfold Oper.wp execOp
  simp only [ho, resolve, invoke, builtin, Sem.run_bind, Sem.run_pure, Result.andThen_ok, List.map_toArray, List.map_cons, List.map_nil, hs, hx, hrun]
  refine h v1 w1 (Kd.R_appended h0 hr hp (fun _ hk => hk.elim) (fun _ _ => trivial) hown1 hg1 ?_) hg1
  rcases hat with hat | hat
  · exact .inl hat
  · exact .inr ⟨_, hat, Nat.le_refl _⟩
end
theorem own_grown {w w1 : World} {base : Nat} {v6 v7 : Value} {xs : List Six} {ys : List Ans} (h7 : ka.R 30 w base (fun _ => True) v7 ys) (h6 : ks.R 28 w base (fun _ => True) v6 xs) (hg : w.grownBy w1 v6.ownBlock) : ka.R 30 w1 base (fun _ => True) v7 ys := by
  obtain ⟨_, _, ho6, _⟩ := h6
  refine Kd.R_mono (Kd.R_move (Kd.R_bound h7) (fun k hk => ?_)) (fun _ _ => trivial)
  obtain ⟨_, _, hlt, q, hq, cs, hcs⟩ := hk
  refine hg.block k hlt (fun e => ?_)
  obtain ⟨cs6, h⟩ := own_typed ho6 k e.symm
  rw [hcs] at h
  have hq2 : q = 30 := by simpa [ka, Kd.pair, Kd.bool, Kd.int, Kd.scalar] using hq
  subst hq2
  simp at h
theorem want_grown {w w1 : World} {base : Nat} {v6 v7 : Value} {xs : List Six} {ys : List Ans} (h7 : ka.R 30 w base (fun _ => True) v7 ys) (h6 : ks.R 28 w base (fun _ => True) v6 xs) (hg : w.grownBy w1 v7.ownBlock) : ks.R 28 w1 base (fun _ => True) v6 xs := by
  obtain ⟨_, _, ho7, _⟩ := h7
  refine Kd.R_mono (Kd.R_move (Kd.R_bound h6) (fun k hk => ?_)) (fun _ _ => trivial)
  obtain ⟨_, _, hlt, q, hq, cs, hcs⟩ := hk
  refine hg.block k hlt (fun e => ?_)
  obtain ⟨cs7, h⟩ := own_typed ho7 k e.symm
  rw [hcs] at h
  have hq2 : q = 28 := by simpa [ks, Kd.pair, Kd.bool, Kd.int, Kd.string, Kd.scalar] using hq
  subst hq2
  simp at h
theorem block_kept6 {w w1 : World} {base g : Nat} {v6 : Value} {xs : List Six} {cs : Array Value} (h6 : ks.R 28 w base (fun _ => True) v6 xs) (hg : w.grownBy w1 v6.ownBlock) (hb : w.heap[g]? = some (.cells cs 30 (0, 0))) : w1.heap[g]? = some (.cells cs 30 (0, 0)) := by
  obtain ⟨_, _, ho6, _⟩ := h6
  refine (hg.block g (Array.getElem?_eq_some_iff.1 hb).1 (fun e => ?_)).trans hb
  obtain ⟨cs6, h⟩ := own_typed ho6 g e.symm
  rw [hb] at h
  simp at h
theorem block_kept7 {w w1 : World} {base g : Nat} {v7 : Value} {ys : List Ans} {cs : Array Value} (h7 : ka.R 30 w base (fun _ => True) v7 ys) (hg : w.grownBy w1 v7.ownBlock) (hb : w.heap[g]? = some (.cells cs 28 (0, 0))) : w1.heap[g]? = some (.cells cs 28 (0, 0)) := by
  obtain ⟨_, _, ho7, _⟩ := h7
  refine (hg.block g (Array.getElem?_eq_some_iff.1 hb).1 (fun e => ?_)).trans hb
  obtain ⟨cs7, h⟩ := own_typed ho7 g e.symm
  rw [hb] at h
  simp at h
theorem below_grown6 {B : Nat} {w0 w w1 : World} {v : Value} {xs : List Six} (hb : Below B w0 w) (h6 : ks.R 28 w B (fun _ => True) v xs) (hbase : B ≤ w.heap.size) (hg : w.grownBy w1 v.ownBlock) : Below B w0 w1 := by
  obtain ⟨_, _, ho, _⟩ := h6
  exact hb.grown hg hbase (own_base ho)
theorem below_grown7 {B : Nat} {w0 w w1 : World} {v : Value} {xs : List Ans} (hb : Below B w0 w) (h6 : ka.R 30 w B (fun _ => True) v xs) (hbase : B ≤ w.heap.size) (hg : w.grownBy w1 v.ownBlock) : Below B w0 w1 := by
  obtain ⟨_, _, ho, _⟩ := h6
  exact hb.grown hg hbase (own_base ho)

theorem grown_w6 {B : Nat} {w0 w4 w w1 : World} {v : Value} {xs : List Six} (hb : Below w0.heap.size w0 w) (h4 : Below B w4 w) (h6 : ks.R 28 w B (fun _ => True) v xs) (hg : w.grownBy w1 v.ownBlock) (h04 : w0.heap.size ≤ B) : Below w0.heap.size w0 w1 := by
  obtain ⟨_, _, ho, _⟩ := h6
  exact hb.grown hg hb.size (fun k hk => Nat.le_trans h04 (own_base ho k hk))
theorem grown_w7 {B : Nat} {w0 w4 w w1 : World} {v : Value} {xs : List Ans} (hb : Below w0.heap.size w0 w) (h4 : Below B w4 w) (h6 : ka.R 30 w B (fun _ => True) v xs) (hg : w.grownBy w1 v.ownBlock) (h04 : w0.heap.size ≤ B) : Below w0.heap.size w0 w1 := by
  obtain ⟨_, _, ho, _⟩ := h6
  exact hb.grown hg hb.size (fun k hk => Nat.le_trans h04 (own_base ho k hk))
theorem new_at (w : World) (o : Obj) (k : Nat) (hk : k = w.heap.size) : (w.alloc o).heap[k]? = some o := by rw [hk]; exact heap_alloc_new w o
theorem size_at0 (w : World) (o : Obj) : (w.alloc o).heap.size = w.heap.size + 1 := by show (w.heap.push o).size = _; simp
theorem size_at (w : World) (o : Obj) : ((w.alloc o).drew).heap.size = w.heap.size + 1 := size_at0 w o
theorem old_dr {w : World} {k : Nat} {o : Option Obj} (h : w.heap[k]? = o) : w.drew.heap[k]? = o := h
theorem kept_at {w : World} {g k : Nat} {o : Option Obj} (h : w.heap[k]? = o) (e : g = k) : w.heap[g]? = o := by rw [e]; exact h
macro "size_eq" : tactic => `(tactic| first | rfl | exact (size_at _ _).symm | exact (size_at0 _ _).symm)
macro "heap_at" : tactic => `(tactic| ((with_reducible repeat (apply old_dr)); first | (with_reducible refine new_at _ _ _ ?_; size_eq) | (with_reducible refine at_old ?_; (with_reducible repeat (apply old_dr)); with_reducible refine new_at _ _ _ ?_; size_eq)))
theorem sz4 {w4 w : World} (h : Below w4.heap.size w4 w) : w4.heap.size ≤ w.heap.size := h.size
/-- The cells that the two appends read. -/
def SS (b9 : Nat) (ad : Addr) (j : Nat) (x1 : Int) (x2 : ByteArray) (x3 x4 x5 x6 y1 y2 y3 : Bool) (y4 : Int) (w : World) : Prop :=
  w.cell? ⟨b9, 0, none⟩ = some (.int .i64 x1) ∧ w.cell? ⟨b9, 1, none⟩ = some (.string x2) ∧ w.cell? ⟨b9, 2, none⟩ = some (.bool x3) ∧ w.cell? ⟨b9, 3, none⟩ = some (.bool x4) ∧ w.cell? ⟨b9, 4, none⟩ = some (.bool x5) ∧ w.cell? ⟨b9, 5, none⟩ = some (.bool x6) ∧
  w.cell? (ad.add (j * 4)) = some (.bool y1) ∧ w.cell? ⟨(ad.add (j * 4)).block, (ad.add (j * 4)).off + 1, none⟩ = some (.bool y2) ∧ w.cell? ⟨(ad.add (j * 4)).block, (ad.add (j * 4)).off + 2, none⟩ = some (.bool y3) ∧ w.cell? ⟨(ad.add (j * 4)).block, (ad.add (j * 4)).off + 3, none⟩ = some (.int .i64 y4)
theorem SS.grown {b9 : Nat} {ad : Addr} {j : Nat} {x1 : Int} {x2 : ByteArray} {x3 x4 x5 x6 y1 y2 y3 : Bool} {y4 : Int} {w w1 : World} {row : Option Nat} (h : SS b9 ad j x1 x2 x3 x4 x5 x6 y1 y2 y3 y4 w) (hg : w.grownBy w1 row) (h9 : row ≠ some b9) (ha : row ≠ some (ad.add (j * 4)).block) :
    SS b9 ad j x1 x2 x3 x4 x5 x6 y1 y2 y3 y4 w1 := by
  obtain ⟨c0, c1, c2, c3, c4, c5, a0, a1, a2, a3⟩ := h
  have mv : ∀ (p : Addr) v, row ≠ some p.block → w.cell? p = some v → w1.cell? p = some v := fun p v hne hv => by rw [hg.cell_far p (World.block_lt_of_cell? w p hv) (Ne.symm hne)]; exact hv
  exact ⟨mv _ _ h9 c0, mv _ _ h9 c1, mv _ _ h9 c2, mv _ _ h9 c3, mv _ _ h9 c4, mv _ _ h9 c5, mv _ _ ha a0, mv _ _ ha a1, mv _ _ ha a2, mv _ _ ha a3⟩
theorem SS.alloc {b9 : Nat} {ad : Addr} {j : Nat} {x1 : Int} {x2 : ByteArray} {x3 x4 x5 x6 y1 y2 y3 : Bool} {y4 : Int} {w : World} (h : SS b9 ad j x1 x2 x3 x4 x5 x6 y1 y2 y3 y4 w) (o : Obj) : SS b9 ad j x1 x2 x3 x4 x5 x6 y1 y2 y3 y4 (w.alloc o) :=
  h.grown (World.grownBy_alloc w o none) (by simp) (by simp)
theorem SS.drew {b9 : Nat} {ad : Addr} {j : Nat} {x1 : Int} {x2 : ByteArray} {x3 x4 x5 x6 y1 y2 y3 : Bool} {y4 : Int} {w : World} (h : SS b9 ad j x1 x2 x3 x4 x5 x6 y1 y2 y3 y4 w) : SS b9 ad j x1 x2 x3 x4 x5 x6 y1 y2 y3 y4 w.drew := h
def to30 (a : Ans) : S30 := ⟨a.1, a.2.1, a.2.2.1, a.2.2.2⟩
theorem to30_C {w : World} {A : Option Addr} {n : Nat} {xs : List Ans} (h : ka.C w A n xs) : Kd.C k30 w A n (xs.map to30) := by
  refine ⟨by have := h.1; simpa using this, h.2.1, fun hp => ?_⟩
  obtain ⟨ad, e, hc⟩ := h.2.2 hp
  refine ⟨ad, e, fun j p hj => ?_⟩
  rw [List.getElem?_map] at hj
  cases hq : xs[j]? with
  | none => rw [hq] at hj; simp at hj
  | some q =>
    rw [hq] at hj
    simp at hj
    subst hj
    exact hc j q hq
theorem same_walk (A0 : Option Addr) (c0 : Nat) (A1 : Option Addr) (c1 : Nat) (xs : List Ans) (w : World) (hn : xs.length ≤ 9223372036854775807) (h0 : ka.C w A0 xs.length xs) (hc0 : xs.length ≤ c0) (h1 : ka.C w A1 xs.length xs) (hc1 : xs.length ≤ c1) :
    Calls Tryd.prog 9 #[.slice A0 xs.length c0, .slice A1 xs.length c1] w fun e w' => e = .returned (.bool true) ∧ Below w.heap.size w w' := by
  have hl : (xs.map to30).length = xs.length := List.length_map _
  obtain ⟨k, hk⟩ := same_refl (xs.map to30) (by rw [hl]; exact hn)
  have h := laws_bucketSame.calls k A0 c0 (xs.map to30) A1 c1 (xs.map to30) true w (by rw [hl]; exact to30_C h0) (by rw [hl]; exact hc0) (by rw [hl]; exact to30_C h1) (by rw [hl]; exact hc1) hk
  rw [hl] at h
  exact h.mono fun e w' ⟨a, b⟩ => ⟨a, b.below⟩
theorem same_at (A0 : Option Addr) (c0 : Nat) (A1 : Option Addr) (c1 : Nat) (xs : List Ans) (n : Nat) (w : World) (e : xs.length = n) (hn : n ≤ 9223372036854775807) (h0 : ka.C w A0 xs.length xs) (hc0 : n ≤ c0) (h1 : ka.C w A1 xs.length xs) (hc1 : n ≤ c1) :
    Calls Tryd.prog 9 #[.slice A0 n c0, .slice A1 n c1] w fun e w' => e = .returned (.bool true) ∧ Below w.heap.size w w' := by
  subst e
  exact same_walk A0 c0 A1 c1 xs w hn h0 hc0 h1 hc1
/-- The state of the law's loop. -/
def Rel (B : Nat) (w w4 : World) (nm : ByteArray) (l : List Six) (all : List Ans) (j : Nat) (v6 v7 : Value) (wr : World) : Prop :=
  ks.R 28 wr B (fun _ => True) v6 (ownOf nm (l.take j)) ∧ ka.R 30 wr B (fun _ => True) v7 (wantOf nm (l.take j) (all.take j)) ∧ Below w.heap.size w wr ∧ Below B w4 wr
set_option maxHeartbeats 8000000 in
theorem apart_walk1 (A : Option Addr) (c : Nat) (l0 : List S28) (nm : ByteArray) (w : World) (hn : l0.length ≤ 60) (hsz : ∀ x ∈ l0, x.f1.size ≤ 100) (hr : Kd.C k28 w A l0.length l0) (hc : l0.length ≤ c) (hnm : nm.size ≤ 2147483647) (hglob : Glob w) (k1 k2 : Nat) (h1 : laws_zzFits1.f k1 l0 = some true) (h2 : laws_bucketIn.f k2 l0 = some true) :
    Calls Tryd.prog 3 #[.slice A l0.length c, .string nm] w fun e w' => e = .returned (.bool true) ∧ Below w.heap.size w w' := by
  have HR := Lib.hid hr
  have HC := Lib.hid hc
  have HG := Lib.hid hglob
  have H1 := Lib.hid h1
  have H2 := Lib.hid h2
  have HS := Lib.hid hsz
  have H6 := Lib.hid (six_C hr)
  have hl6 : (l0.map six).length = l0.length := List.length_map _
  have HL6 := Lib.hid hl6
  have g0 : decide ((2147483647 : Int) < (nm.size : Int)) = false := decide_eq_false (by omega)
  have hst := steps_at A c l0 w
  have HST := Lib.hid (fun W hb => hst W hn HS.out HR.out HC.out HG.out hb)
  clear hst hr hc hglob h1 h2 hsz hl6 hnm
  go_enter Tryd.func3, Tryd.ntmps3
  go_wp2_with (first
    | (go_at_call 5; (with_reducible refine (laws_zzFits1.calls k1 A c l0 true _ HR.out HC.out H1.out).mono ?_); rintro e w1 ⟨rfl, hb1⟩; have HB1 := Lib.hid hb1; clear hb1)
    | (go_at_call 6; (with_reducible refine (laws_bucketIn.calls k2 A c l0 true _ (Kd.C_below HR.out HB1.out) HC.out H2.out).mono ?_); rintro e w2 ⟨rfl, hb2⟩; have HB2 := Lib.hid (HB1.out.trans (hb2.mono HB1.out.size)); clear hb2)
    | (go_at_call 7; (with_reducible refine (laws_bucketAwake.calls true _ (HG.out.below HB2.out) awake).mono ?_); rintro e w3 ⟨rfl, hb3⟩; have HB3 := Lib.hid (HB2.out.trans (hb3.mono HB2.out.size)); clear hb3)
    | (go_at_call 8; (with_reducible refine (HST.out _ HB3.out).mono ?_); rintro e w4 ⟨v4, rfl, ho4, hb4⟩; have HB4 := Lib.hid (HB3.out.trans (hb4.mono HB3.out.size)); obtain ⟨A5, c5, e5⟩ := Kd.R_slice ho4; rw [steps_len, List.length_map, List.length_map] at e5; subst e5; have HO4 := Lib.hid (Kd.R_reads' ho4).2.2; clear ho4 hb4))
  go_loopw [6, 7, 32] (fun v6 v7 v32 wr => ∃ j : Nat, j ≤ l0.length ∧ v32 = .int .i64 j ∧ Rel w4.heap.size w w4 nm (l0.map six) (steps (fun _ => none) ((l0.map six).map toStep)) j v6 v7 wr) (fun _ _ v32 _ => l0.length - (intOf v32).toNat)
  case atStart => exact ⟨0, Nat.zero_le _, rfl, Kd.R_nil _ _ _ _ _, Kd.R_nil _ _ _ _ _, HB4.out, Below.refl _ _⟩
  case round =>
    obtain ⟨j, hj, rfl, hrel⟩ := hrel
    obtain ⟨ho6, ho7, hb, hb4⟩ := hrel
    have HO6 := Lib.hid ho6
    have HO7 := Lib.hid ho7
    have HBX := Lib.hid hb
    have HB5 := Lib.hid hb4
    clear ho6 ho7 hb hb4
    by_cases hl2 : j < l0.length
    · have d0 : decide ((j : Int) < (l0.length : Int)) = true := decide_eq_true (by omega)
      have d1 : (j : Int) < (l0.length : Int) := by omega
      have hjl : j < (l0.map six).length := by have := HL6.out; omega
      have hja : j < (steps (fun _ => none) ((l0.map six).map toStep)).length := by rw [steps_len, List.length_map]; exact hjl
      obtain ⟨ad, rfl, x1, x2, x3, x4, x5, x6, hx, c0, c1, c2, c3, c4, c5'⟩ := ks_C (Kd.C_below H6.out HBX.out) j hjl
      obtain ⟨ad5, rfl, a0, a1, a2, a3⟩ := ka_C (Kd.C_below HO4.out HB5.out) j hja
      have hos := own_step nm (l0.map six) j hjl
      have hws := want_step nm (l0.map six) _ j hjl hja
      rw [hx] at hos hws
      have l5 : (ad5.add (j * 4)).block < w4.heap.size := by
        obtain ⟨ad', e', a0', _⟩ := ka_C HO4.out j hja
        obtain rfl := Option.some.inj e'
        exact World.block_lt_of_cell? w4 _ a0'
      have L5 := Lib.hid l5
      clear l5
      generalize (steps (fun _ => none) ((l0.map six).map toStep))[j] = an at *
      obtain ⟨y1, y2, y3, y4⟩ := an
      simp only at a0 a1 a2 a3 hos hws
      have HOS := Lib.hid hos
      have HWS := Lib.hid hws
      clear hx hos hws hja hjl
      have hwa : Below wr.heap.size wr (wr.alloc (.cells #[.int .i64 x1, .string x2, .bool x3, .bool x4, .bool x5, .bool x6] 28)) := (Below.refl _ _).alloc (Nat.le_refl _) _
      have HWA := Lib.hid hwa
      clear hwa
      by_cases he : x2.toList = nm.toList
      · have e1 : (x2.toList == nm.toList) = true := beq_iff_eq.mpr he
        have en : x2 = nm := Plain.toList_inj he
        have EN := Lib.hid en
        clear he en
        obtain ⟨A6, c6, e6⟩ := Kd.R_slice HO6.out
        subst e6
        obtain ⟨A7, c7, e7⟩ := Kd.R_slice HO7.out
        subst e7
        have hol : (ownOf nm ((l0.map six).take j)).length ≤ 60 := by unfold ownOf; exact Nat.le_trans (List.length_filter_le _ _) (by simp; omega)
        have hwl : (wantOf nm ((l0.map six).take j) ((steps (fun _ => none) ((l0.map six).map toStep)).take j)).length ≤ 60 := by
          unfold wantOf
          rw [List.length_map]
          exact Nat.le_trans (List.length_filter_le _ _) (by simp; omega)
        have s0 : SS wr.heap.size ad5 j x1 x2 x3 x4 x5 x6 y1 y2 y3 y4 (wr.alloc (.cells #[.int .i64 x1, .string x2, .bool x3, .bool x4, .bool x5, .bool x6] 28)) := by
          have hn := heap_alloc_new wr (.cells #[.int .i64 x1, .string x2, .bool x3, .bool x4, .bool x5, .bool x6] 28)
          exact ⟨cell_of hn 0 rfl, cell_of hn 1 rfl, cell_of hn 2 rfl, cell_of hn 3 rfl, cell_of hn 4 rfl, cell_of hn 5 rfl, pw_cell_below HWA.out a0, pw_cell_below HWA.out a1, pw_cell_below HWA.out a2, pw_cell_below HWA.out a3⟩
        have n69 : (Value.slice A6 (ownOf nm ((l0.map six).take j)).length c6).ownBlock ≠ some wr.heap.size := by
          obtain ⟨_, _, ho, _⟩ := HO6.out
          intro e; have := own_lt ho _ e; omega
        have n79 : (Value.slice A7 (wantOf nm ((l0.map six).take j) ((steps (fun _ => none) ((l0.map six).map toStep)).take j)).length c7).ownBlock ≠ some wr.heap.size := by
          obtain ⟨_, _, ho, _⟩ := HO7.out
          intro e; have := own_lt ho _ e; omega
        have l5 := L5.out
        have n65 : (Value.slice A6 (ownOf nm ((l0.map six).take j)).length c6).ownBlock ≠ some (ad5.add (j * 4)).block := by
          obtain ⟨_, _, ho, _⟩ := HO6.out
          intro e; have := own_base ho _ e; omega
        have n75 : (Value.slice A7 (wantOf nm ((l0.map six).take j) ((steps (fun _ => none) ((l0.map six).map toStep)).take j)).length c7).ownBlock ≠ some (ad5.add (j * 4)).block := by
          obtain ⟨_, _, ho, _⟩ := HO7.out
          intro e; have := own_base ho _ e; omega
        have hx6 := Kd.R_below HO6.out HWA.out
        have hx7 := Kd.R_below HO7.out HWA.out
        have hxb := HBX.out.trans (HWA.out.mono HBX.out.size)
        have hx4 := HB5.out.trans (HWA.out.mono HB5.out.size)
        have h46 : w4.heap.size ≤ wr.heap.size := HB5.out.size
        have H04 : Hid (w.heap.size ≤ w4.heap.size) := Lib.hid HB4.out.size
        go_upto_region 16 with (fail)
        generalize ownOf nm ((l0.map six).take j) = own at *
        generalize wantOf nm ((l0.map six).take j) ((steps (fun _ => none) ((l0.map six).map toStep)).take j) = wnt at *
        generalize hwx : wr.alloc (.cells #[.int .i64 x1, .string x2, .bool x3, .bool x4, .bool x5, .bool x6] 28) = wx at *
        have hsx : wx.heap.size = wr.heap.size + 1 := by rw [← hwx]; simp
        have lx : wr.heap.size < wx.heap.size := by omega
        have HX6 := Lib.hid hx6
        have HX7 := Lib.hid hx7
        have HXB := Lib.hid hxb
        have HX4 := Lib.hid hx4
        have SX := Lib.hid s0
        have N69 := Lib.hid n69
        have N79 := Lib.hid n79
        have N65 := Lib.hid n65
        have N75 := Lib.hid n75
        generalize hb9 : wr.heap.size = b9 at *
        clear hwx hx6 hx7 hxb hx4 n69 n79 n65 n75 hsx HWA HO6 HO7 HBX HB5 hb9 c0 c1 c2 c3 c4 c5' a0 a1 a2 a3 e1
        obtain ⟨c0, c1, c2, c3, c4, c5', a0, a1, a2, a3⟩ := s0
        go_region_held3 (fun wh => wh.cell? ⟨b9, 0, none⟩ = some (.int .i64 x1) ∧ wh.cell? ⟨b9, 1, none⟩ = some (.string x2) ∧ wh.cell? ⟨b9, 2, none⟩ = some (.bool x3) ∧ wh.cell? ⟨b9, 3, none⟩ = some (.bool x4) ∧ wh.cell? ⟨b9, 4, none⟩ = some (.bool x5) ∧ wh.cell? ⟨b9, 5, none⟩ = some (.bool x6) ∧ wh.cell? (ad5.add (j * 4)) = some (.bool y1) ∧ wh.cell? ⟨(ad5.add (j * 4)).block, (ad5.add (j * 4)).off + 1, none⟩ = some (.bool y2) ∧ wh.cell? ⟨(ad5.add (j * 4)).block, (ad5.add (j * 4)).off + 2, none⟩ = some (.bool y3) ∧ wh.cell? ⟨(ad5.add (j * 4)).block, (ad5.add (j * 4)).off + 3, none⟩ = some (.int .i64 y4))
          (first | go_keep)
          (first
            | (refine append_at ka w4.heap.size (by rfl) (.tmp 45) (.tmp 50) 25 30 (.agg #[(.bool false), (.bool false), (.bool false), (.int .i64 0)]) 16 (by rfl) Tryd.underlying25 info30 rfl (by decide) (by omega) (.slice A7 wnt.length c7) wnt (y1, y2, y3, y4) [.bool y1, .bool y2, .bool y3, .int .i64 y4] (by rfl) _ (by rfl) (by first | heap_at | exact kept_at JC.out (by first | rfl | exact size_at _ _ | exact size_at0 _ _) | exact kept_at JD.out (by first | rfl | exact size_at _ _ | exact size_at0 _ _)) (ka_mk _ _ _ (y1, y2, y3, y4)) (by (with_reducible repeat (first | apply Kd.R_alloc | apply Kd.R_drewN | apply Kd.R_drew)); exact J7.out) (sz4 (by (with_reducible repeat (first | apply below_alloc | apply pw_below_drewN | apply below_drew1)); exact J4.out)) (by omega) ?_; intro v51 w51 ho51 hg51; have F7 := Lib.hid ho51; have F6 := Lib.hid (want_grown (base := w4.heap.size) (v6 := v44) (xs := own ++ [(x1, x2, x3, x4, x5, x6)]) (v7 := .slice A7 wnt.length c7) (ys := wnt) (by (with_reducible repeat (first | apply Kd.R_alloc | apply Kd.R_drewN | apply Kd.R_drew)); exact J7.out) (by (with_reducible repeat (first | apply Kd.R_alloc | apply Kd.R_drewN | apply Kd.R_drew)); exact J6.out) hg51); have FB := Lib.hid (grown_w7 (B := w4.heap.size) (w0 := w) (w4 := w4) (v := .slice A7 wnt.length c7) (xs := wnt) (by (with_reducible repeat (first | apply below_alloc | apply pw_below_drewN | apply below_drew1)); exact JB.out) (by (with_reducible repeat (first | apply below_alloc | apply pw_below_drewN | apply below_drew1)); exact J4.out) (by (with_reducible repeat (first | apply Kd.R_alloc | apply Kd.R_drewN | apply Kd.R_drew)); exact J7.out) hg51 H04.out); have F4 := Lib.hid (below_grown7 (B := w4.heap.size) (w0 := w4) (v := .slice A7 wnt.length c7) (xs := wnt) (by (with_reducible repeat (first | apply below_alloc | apply pw_below_drewN | apply below_drew1)); exact J4.out) (by (with_reducible repeat (first | apply Kd.R_alloc | apply Kd.R_drewN | apply Kd.R_drew)); exact J7.out) (sz4 (by (with_reducible repeat (first | apply below_alloc | apply pw_below_drewN | apply below_drew1)); exact J4.out)) hg51); have ss51 := SS.grown (b9 := b9) (ad := ad5) (j := j) (x1 := x1) (x2 := x2) (x3 := x3) (x4 := x4) (x5 := x5) (x6 := x6) (y1 := y1) (y2 := y2) (y3 := y3) (y4 := y4) (by (with_reducible repeat (first | apply SS.alloc | apply SS.drew)); exact JS.out) hg51 N79.out N75.out; have FS := Lib.hid ss51; obtain ⟨r0, r1, r2, r3, r4, r5, t0, t1, t2, t3⟩ := ss51; clear ho51 hg51)
            | (refine append_at ks w4.heap.size (by rfl) (.tmp 41) (.tmp 43) 22 28 (.agg #[(.int .i64 0), (.string ⟨#[]⟩), (.bool false), (.bool false), (.bool false), (.bool false)]) 32 (by rfl) Tryd.underlying22 info28 rfl (by decide) (by omega) (.slice A6 own.length c6) own (x1, x2, x3, x4, x5, x6) [.int .i64 x1, .string x2, .bool x3, .bool x4, .bool x5, .bool x6] (by rfl) _ (by rfl) (by heap_at) (ks_mk _ _ _ (x1, x2, x3, x4, x5, x6)) (by (with_reducible repeat (first | apply Kd.R_alloc | apply Kd.R_drewN | apply Kd.R_drew)); exact HX6.out) (sz4 (by (with_reducible repeat (first | apply below_alloc | apply pw_below_drewN | apply below_drew1)); exact HX4.out)) (by omega) ?_; intro v44 w44 ho44 hg44; have J6 := Lib.hid ho44; have J7 := Lib.hid (own_grown (base := w4.heap.size) (v6 := .slice A6 own.length c6) (xs := own) (v7 := .slice A7 wnt.length c7) (ys := wnt) (by (with_reducible repeat (first | apply Kd.R_alloc | apply Kd.R_drewN | apply Kd.R_drew)); exact HX7.out) (by (with_reducible repeat (first | apply Kd.R_alloc | apply Kd.R_drewN | apply Kd.R_drew)); exact HX6.out) hg44); have JB := Lib.hid (grown_w6 (B := w4.heap.size) (w0 := w) (w4 := w4) (v := .slice A6 own.length c6) (xs := own) (by (with_reducible repeat (first | apply below_alloc | apply pw_below_drewN | apply below_drew1)); exact HXB.out) (by (with_reducible repeat (first | apply below_alloc | apply pw_below_drewN | apply below_drew1)); exact HX4.out) (by (with_reducible repeat (first | apply Kd.R_alloc | apply Kd.R_drewN | apply Kd.R_drew)); exact HX6.out) hg44 H04.out); have J4 := Lib.hid (below_grown6 (B := w4.heap.size) (w0 := w4) (v := .slice A6 own.length c6) (xs := own) (by (with_reducible repeat (first | apply below_alloc | apply pw_below_drewN | apply below_drew1)); exact HX4.out) (by (with_reducible repeat (first | apply Kd.R_alloc | apply Kd.R_drewN | apply Kd.R_drew)); exact HX6.out) (sz4 (by (with_reducible repeat (first | apply below_alloc | apply pw_below_drewN | apply below_drew1)); exact HX4.out)) hg44); have ss44 := SS.grown (b9 := b9) (ad := ad5) (j := j) (x1 := x1) (x2 := x2) (x3 := x3) (x4 := x4) (x5 := x5) (x6 := x6) (y1 := y1) (y2 := y2) (y3 := y3) (y4 := y4) (by (with_reducible repeat (first | apply SS.alloc | apply SS.drew)); exact SX.out) hg44 N69.out N65.out; have JS := Lib.hid ss44; obtain ⟨p0, p1, p2, p3, p4, p5, q0, q1, q2, q3⟩ := ss44; (try (have JC := Lib.hid (block_kept6 (base := w4.heap.size) (v6 := .slice A6 own.length c6) (xs := own) (g := wx.heap.size) (cs := #[.bool y1, .bool y2, .bool y3, .int .i64 y4]) (by (with_reducible repeat (first | apply Kd.R_alloc | apply Kd.R_drewN | apply Kd.R_drew)); exact HX6.out) hg44 (by heap_at)))); (try (have JD := Lib.hid (block_kept6 (base := w4.heap.size) (v6 := .slice A6 own.length c6) (xs := own) (g := wx.heap.size + 1) (cs := #[.bool y1, .bool y2, .bool y3, .int .i64 y4]) (by (with_reducible repeat (first | apply Kd.R_alloc | apply Kd.R_drewN | apply Kd.R_drew)); exact HX6.out) hg44 (by heap_at)))); clear ho44 hg44))
        all_goals go_wp2
        all_goals go_roundw
        all_goals first
          | (refine ⟨j + 1, by omega, by go_num, ?_⟩; have h1 := HOS.out; have h2 := HWS.out; rw [if_pos EN.out] at h1 h2; exact ⟨h1 ▸ F6.out, h2 ▸ F7.out, FB.out, F4.out⟩)
          | (simp [intOf]; omega)
      · have e1 : (x2.toList == nm.toList) = false := beq_eq_false_iff_ne.mpr he
        have en : x2 ≠ nm := fun e => he (by rw [e])
        have EN := Lib.hid en
        clear he en
        go_wp2
        go_roundw
        case rel => exact ⟨j + 1, by omega, by go_num, by
          have h1 := HOS.out
          have h2 := HWS.out
          rw [if_neg EN.out] at h1 h2
          exact ⟨h1 ▸ Kd.R_below HO6.out HWA.out, h2 ▸ Kd.R_below HO7.out HWA.out, HBX.out.trans (HWA.out.mono HBX.out.size), HB5.out.trans (HWA.out.mono HB5.out.size)⟩⟩
        case measure => simp [intOf]; omega
    · have d0 : decide ((j : Int) < (l0.length : Int)) = false := decide_eq_false (by omega)
      have hjj : j = l0.length := by omega
      have t1 : (l0.map six).take j = l0.map six := List.take_of_length_le (by have := HL6.out; omega)
      have t2 : (steps (fun _ => none) ((l0.map six).map toStep)).take j = steps (fun _ => none) ((l0.map six).map toStep) := List.take_of_length_le (by rw [steps_len, List.length_map]; have := HL6.out; omega)
      have ho6 := HO6.out
      have ho7 := HO7.out
      rw [t1] at ho6 ho7
      rw [t2] at ho7
      have hq := apart_six nm (l0.map six)
      have hol : (ownOf nm (l0.map six)).length ≤ 60 := by unfold ownOf; exact Nat.le_trans (List.length_filter_le _ _) (by have := HL6.out; omega)
      have hsz6 : ∀ x ∈ ownOf nm (l0.map six), x.2.1.size ≤ maxLen := fun x hx => by
        obtain ⟨y, hy, rfl⟩ := List.mem_map.1 (List.mem_filter.1 hx).1
        have := HS.out y hy
        unfold maxLen; show y.f1.size ≤ _; omega
      rw [← hq] at ho7
      obtain ⟨wo, rfl⟩ : ∃ wo : World, wo = wr := ⟨_, rfl⟩
      have HO6' := Lib.hid ho6
      have HO7' := Lib.hid ho7
      have HSZ := Lib.hid hsz6
      clear hq t1 t2 HO6 HO7 ho6 ho7 hsz6
      generalize ownOf nm (l0.map six) = own at *
      have hwl : (steps (fun _ => none) (own.map toStep)).length = own.length := by rw [steps_len, List.length_map]
      obtain ⟨A6, c6, e6⟩ := Kd.R_slice HO6'.out
      subst e6
      obtain ⟨A7, c7, e7⟩ := Kd.R_slice HO7'.out
      rw [hwl] at e7
      subst e7
      have hst2 : ∀ W, Below wo.heap.size wo W → Calls Tryd.prog 8 #[.slice A6 own.length c6] W fun e w' => ∃ v, e = .returned v ∧ ka.R 30 w' W.heap.size (fun _ => True) v (steps (fun _ => none) (own.map toStep)) ∧ Below W.heap.size W w' := fun W hW => by
        obtain ⟨eg, ht⟩ := HG.out.below (HBX.out.trans (hW.mono HBX.out.size))
        exact steps_any A6 c6 own W (by omega) (Kd.C_below (Kd.R_reads' HO6'.out).2.2 hW) (Kd.R_reads' HO6'.out).2.1 eg ht HSZ.out
      have HST2 := Lib.hid hst2
      have hcc := (Kd.R_reads' HO7'.out).2.1
      have HC7 := Lib.hid (Kd.R_reads' HO7'.out).2.2
      have HW := Lib.hid hwl
      clear hst2 hwl
      go_wp2_with (first
        | (go_at_call 8; (with_reducible refine (HST2.out _ (Below.refl _ _)).mono ?_); rintro e w5 ⟨v5, rfl, ho5, hb5⟩; have HX5 := Lib.hid hb5; obtain ⟨A8, c8, e8⟩ := Kd.R_slice ho5; rw [HW.out] at e8; subst e8; have HO5 := Lib.hid (Kd.R_reads' ho5); clear ho5 hb5)
        | (go_at_call 9; (with_reducible refine (same_at A8 c8 A7 c7 _ own.length _ HW.out (by omega) HO5.out.2.2 HO5.out.2.1 (Kd.C_below HC7.out HX5.out) hcc).mono ?_); rintro e w6 ⟨rfl, hb6⟩; have HB6 := Lib.hid (HBX.out.trans ((HX5.out.trans (hb6.mono HX5.out.size)).mono HBX.out.size)); clear hb6))
      go_ret
      exact ⟨rfl, HB6.out⟩
end Go.Proofs.YtbennnoddflggaaDoor.Buck
