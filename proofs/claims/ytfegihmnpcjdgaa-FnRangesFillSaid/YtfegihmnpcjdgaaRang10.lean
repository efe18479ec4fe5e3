import Derived.Test.YtfegihmnpcjdgaaRang9
import Derived.Test.YtfegihmnpcjdgaaRangInter
namespace Go.Proofs.Ytfegihmnpcjdgaa.Rang
open Go.RowKit Go.Proofs.YtfegihmnpcjdgaaW.PrintWords Go.Proofs.YtfegihmnpcjdgaaW.PrintMore
set_option linter.unusedVariables false

/-- Have two ranges bytes in common? -/
def meet (a b : Int × Int) : Prop := (b.1 ≤ a.1 ∧ a.1 < en b) ∨ (a.1 ≤ b.1 ∧ b.1 < en a)
instance (a b : Int × Int) : Decidable (meet a b) := by unfold meet; infer_instance
/-- What two ranges have in common. -/
def inter (a b : Int × Int) : Int × Int := if meet a b then (max a.1 b.1, wrap64 (min (en a) (en b) - max a.1 b.1)) else (0, 0)

theorem inter_f (a b c d : Int) : RangInter.ranges_Range_Intersection.f 1 a b c d = some (inter (a, b) (c, d)) := by
  have hmx : mx a c = max a c := by unfold mx; omega
  have hmn : mn (wrap64 (a + b)) (wrap64 (c + d)) = min (wrap64 (a + b)) (wrap64 (c + d)) := by unfold mn; omega
  unfold RangInter.ranges_Range_Intersection.f RangInter.ranges_Range_End.f inter meet en
  simp only [RangInter.ranges_Range_Intersection.j0, RangInter.ranges_Range_End.f, Option.bind_some, hmx, hmn]
  by_cases h1 : c ≤ a <;> by_cases h2 : a < wrap64 (c + d) <;> by_cases h3 : a ≤ c <;> by_cases h4 : c < wrap64 (a + b) <;> simp [h1, h2, h3, h4]
theorem inter_any (a b c d : Int) (w : World) :
    Calls Try.prog 56 #[.agg #[.int .i64 a, .int .i64 b], .agg #[.int .i64 c, .int .i64 d]] w fun e w' => e = .returned (.agg #[.int .i64 (inter (a, b) (c, d)).1, .int .i64 (inter (a, b) (c, d)).2]) ∧ Below w.heap.size w w' :=
  RangInter.ranges_Range_Intersection.calls 1 a b c d _ _ w (inter_f a b c d)

/-- What is found of a range in a set: the part, the rest, whether it is present. -/
def find (xs : List (Int × Int)) (r : Int × Int) : (Int × Int) × (Int × Int) × Bool :=
  if r.2 ≤ 0 then (r, (0, 0), false)
  else if 0 < place xs r.1 ∧ ¬ (inter (el xs (place xs r.1 - 1)) r).2 ≤ 0 then
    (inter (el xs (place xs r.1 - 1)) r, (en (inter (el xs (place xs r.1 - 1)) r), wrap64 (r.2 - (inter (el xs (place xs r.1 - 1)) r).2)), true)
  else if xs.length ≤ place xs r.1 then (r, (0, 0), false)
  else if (inter (el xs (place xs r.1)) r).2 ≤ 0 then (r, (0, 0), false)
  else if r.1 < (inter (el xs (place xs r.1)) r).1 then
    ((r.1, wrap64 ((inter (el xs (place xs r.1)) r).1 - r.1)), (wrap64 (r.1 + wrap64 ((inter (el xs (place xs r.1)) r).1 - r.1)), wrap64 (r.2 - wrap64 ((inter (el xs (place xs r.1)) r).1 - r.1))), false)
  else (inter (el xs (place xs r.1)) r, (en (inter (el xs (place xs r.1)) r), wrap64 (r.2 - (inter (el xs (place xs r.1)) r).2)), true)

theorem blk_down {b : Nat} {cur : Array Value} {w w1 : World} (h : Blk b cur w) (hb : Below w.heap.size w w1) : Blk b cur w1 := (hb.block b h.lt).trans h
theorem alloc_size (w : World) (o : Obj) : (w.alloc o).heap.size = w.heap.size + 1 := by simp
/-- What Find returns, as values. -/
def Found (f : (Int × Int) × (Int × Int) × Bool) : Value := .tuple #[.agg #[.int .i64 f.1.1, .int .i64 f.1.2], .agg #[.int .i64 f.2.1.1, .int .i64 f.2.1.2], .bool f.2.2]

theorem two_cells {b : Nat} {x y : Value} {w : World} (h : Blk b #[x, y] w) : w.cell? ⟨b, 0, none⟩ = some x ∧ w.cell? ⟨b, 1, none⟩ = some y ∧ w.frozen? ⟨b, 0, none⟩ = false ∧ w.frozen? ⟨b, 1, none⟩ = false := ⟨h.cell 0 _ rfl, h.cell 1 _ rfl, h.frozen 0, h.frozen 1⟩
set_option maxHeartbeats 4000000 in
set_option maxRecDepth 100000 in
/-- The statement that tells the absent part, by itself. -/
theorem reg22 {n3 n4 n5 : Nat} {a b E D : Int} {w7 : World} {K K1 : Act → World → Prop} {post : Ending → World → Prop} {v0 v1 u6 u7 u8 u9 u10 u11 u12 u13 u14 u15 u16 u17 u18 u19 u20 u21 u22 u23 u24 u25 u26 u27 u28 u29 u30 u31 u32 u33 u34 u35 u36 u37 u38 u39 u40 u41 u42 u43 u44 u45 u46 u47 u48 u49 u50 u51 u52 u53 u54 u55 u56 u57 u58 u59 u60 u61 u62 u63 u64 u65 u66 u67 u68 u69 u70 u71 u72 u73 u74 u75 u76 u77 u78 u79 u80 u81 u82 u83 u84 u85 u86 u87 u88 u89 u90 u91 u92 u93 : Value}
    (l34 : n3 < n4) (l45 : n4 < n5) (b3 : Blk n3 #[.int .i64 E, .int .i64 D] w7) (b4 : Blk n4 #[.int .i64 a, .int .i64 b] w7) (b5 : Blk n5 #[.int .i64 0, .int .i64 0] w7)
    (hK : K ⟨#[v0, v1, undef, Value.pointer (some { block := n3, off := 0 }), Value.pointer (some { block := n4, off := 0 }), Value.pointer (some { block := n5, off := 0 }), .bool false, u7, u8, u9, u10, u11, u12, u13, u14, u15, u16, u17, u18, u19, u20, u21, u22, u23, u24, u25, u26, u27, u28, u29, u30, u31, u32, u33, u34, u35, u36, u37, u38, u39, u40, u41, u42, u43, u44, u45, u46, u47, u48, u49, u50, u51, u52, u53, u54, u55, u56, u57, u58, u59, u60, u61, u62, u63, u64, u65, u66, u67, u68, u69, u70, u71, u72, u73, u74, u75, u76, u77, u78, u79, u80, .agg #[.int .i64 a, .int .i64 b], .agg #[.int .i64 E, .int .i64 D], u83, u84, u85, u86, u87, u88, u89, u90, u91, u92, u93], []⟩ ((((w7.setCell ⟨n4, 0, none⟩ (.int .i64 a)).setCell ⟨n4, 1, none⟩ (.int .i64 b)).setCell ⟨n5, 0, none⟩ (.int .i64 E)).setCell ⟨n5, 1, none⟩ (.int .i64 D)).drew) :
    (Code.region 22 #[⟨some 81, .load 61 (.tmp 4), 61, "ranges.go:172", #[], none⟩, ⟨some 82, .load 61 (.tmp 3), 61, "ranges.go:172", #[⟨2, .gcOnly .lateStores⟩], none⟩,
    ⟨none, .store 61 (.tmp 4) (.tmp 81), 0, "ranges.go:172", #[⟨0, .data⟩, ⟨0, .phase⟩, ⟨1, .textOnly .lateStores⟩], none⟩,
    ⟨none, .store 61 (.tmp 5) (.tmp 82), 0, "ranges.go:172", #[⟨1, .data⟩, ⟨2, .chain⟩, ⟨0, .phase⟩, ⟨1, .phase⟩, ⟨2, .phase⟩], none⟩,
    ⟨some 6, .assign (.const (.bool false)), 4, "ranges.go:172", #[⟨3, .chain⟩, ⟨0, .phase⟩, ⟨1, .phase⟩, ⟨2, .phase⟩, ⟨3, .phase⟩], none⟩] true).wp Try.prog (Exit.then K (Exit.then K1 (bodyPost Try.prog Try.f44 post)))
      ⟨#[v0, v1, undef, Value.pointer (some { block := n3, off := 0 }), Value.pointer (some { block := n4, off := 0 }), Value.pointer (some { block := n5, off := 0 }), u6, u7, u8, u9, u10, u11, u12, u13, u14, u15, u16, u17, u18, u19, u20, u21, u22, u23, u24, u25, u26, u27, u28, u29, u30, u31, u32, u33, u34, u35, u36, u37, u38, u39, u40, u41, u42, u43, u44, u45, u46, u47, u48, u49, u50, u51, u52, u53, u54, u55, u56, u57, u58, u59, u60, u61, u62, u63, u64, u65, u66, u67, u68, u69, u70, u71, u72, u73, u74, u75, u76, u77, u78, u79, u80, u81, u82, u83, u84, u85, u86, u87, u88, u89, u90, u91, u92, u93], []⟩ w7 := by
  obtain ⟨k30, k31, f30, f31⟩ := two_cells b3
  obtain ⟨k40, k41, f40, f41⟩ := two_cells b4
  obtain ⟨k50, k51, f50, f51⟩ := two_cells b5
  have HK := Lib.hid hK
  clear hK b3 b4 b5
  go_region
  all_goals exact HK.out
theorem blk_far {b g : Nat} {cur : Array Value} {w : World} {o : Nat} {v : Value} (h : Blk b cur w) (hne : b ≠ g) : Blk b cur (w.setCell ⟨g, o, none⟩ v) := (Below.heap_setCell _ _ _ b hne).trans h
theorem blk_two {b : Nat} {x y x' y' : Value} {w : World} (h : Blk b #[x, y] w) : Blk b #[x', y'] ((w.setCell ⟨b, 0, none⟩ x').setCell ⟨b, 1, none⟩ y') := blk_put (blk_put h 0 x' rfl) 1 y' rfl
theorem results44_is {tms : Array Value} {w : World} {n4 n5 : Nat} {p q r s : Int} {u : Value} (h4 : Blk n4 #[.int .i64 p, .int .i64 q] w) (h5 : Blk n5 #[.int .i64 r, .int .i64 s] w)
    (e4 : tms[4]?.getD undef = .pointer (some ⟨n4, 0, none⟩)) (e5 : tms[5]?.getD undef = .pointer (some ⟨n5, 0, none⟩)) (e6 : tms[6]?.getD undef = u) :
    (results Try.f44 tms).run Try.prog w = .ok (.tuple #[.agg #[.int .i64 p, .int .i64 q], .agg #[.int .i64 r, .int .i64 s], u]) w := by
  obtain ⟨k40, k41, f40, f41⟩ := two_cells h4
  obtain ⟨k50, k51, f50, f51⟩ := two_cells h5
  simp [results, Try.results44, go_sem, e4, e5, e6, k40, k41, k50, k51]
set_option maxHeartbeats 4000000 in
set_option maxRecDepth 100000 in
/-- Find's end, by itself. -/
theorem end44 {n4 n5 : Nat} {p q r s : Int} {W : World} {post : Ending → World → Prop} {v0 v1 v2 v3 v6 v7 v8 v9 v10 v11 v12 v13 v14 v15 v16 v17 v18 v19 v20 v21 v22 v23 v24 v25 v26 v27 v28 v29 v30 v31 v32 v33 v34 v35 v36 v37 v38 v39 v40 v41 v42 v43 v44 v45 v46 v47 v48 v49 v50 v51 v52 v53 v54 v55 v56 v57 v58 v59 v60 v61 v62 v63 v64 v65 v66 v67 v68 v69 v70 v71 v72 v73 v74 v75 v76 v77 v78 v79 v80 v81 v82 v83 v84 v85 v86 v87 v88 v89 v90 v91 v92 v93 : Value}
    (h4 : Blk n4 #[.int .i64 p, .int .i64 q] W) (h5 : Blk n5 #[.int .i64 r, .int .i64 s] W) (hp : post (.returned (.tuple #[.agg #[.int .i64 p, .int .i64 q], .agg #[.int .i64 r, .int .i64 s], v6])) W) :
    bodyPost Try.prog Try.f44 post .ret ⟨#[v0, v1, v2, v3, Value.pointer (some { block := n4, off := 0 }), Value.pointer (some { block := n5, off := 0 }), v6, v7, v8, v9, v10, v11, v12, v13, v14, v15, v16, v17, v18, v19, v20, v21, v22, v23, v24, v25, v26, v27, v28, v29, v30, v31, v32, v33, v34, v35, v36, v37, v38, v39, v40, v41, v42, v43, v44, v45, v46, v47, v48, v49, v50, v51, v52, v53, v54, v55, v56, v57, v58, v59, v60, v61, v62, v63, v64, v65, v66, v67, v68, v69, v70, v71, v72, v73, v74, v75, v76, v77, v78, v79, v80, v81, v82, v83, v84, v85, v86, v87, v88, v89, v90, v91, v92, v93], []⟩ W :=
  bodyPost_ret (results44_is h4 h5 rfl rfl rfl) rfl hp
/-- The three variables that Find begins with. -/
structure Fst (B n3 n4 n5 : Nat) (a b u v : Int) (w0 w : World) : Prop where
  low : Below B w0 w
  b3 : Blk n3 #[.int .i64 a, .int .i64 b] w
  b4 : Blk n4 #[.int .i64 u, .int .i64 v] w
  b5 : Blk n5 #[.int .i64 0, .int .i64 0] w
  l3 : B ≤ n3
  l34 : n3 < n4
  l45 : n4 < n5
theorem Fst.start (a b : Int) (w : World) : Fst w.heap.size w.heap.size (w.heap.size + 1) (w.heap.size + 1 + 1) a b 0 0 w (((w.alloc (.cells #[.int .i64 a, .int .i64 b] 61)).alloc (.cells #[.int .i64 0, .int .i64 0] 61)).alloc (.cells #[.int .i64 0, .int .i64 0] 61)) := by
  refine ⟨(((Below.refl _ _).alloc (Nat.le_refl _) _).alloc (by simp) _).alloc (by simp; omega) _, blk_alloc (blk_alloc (heap_alloc_new _ _) _) _, ?_, ?_, Nat.le_refl _, by omega, by omega⟩
  · have h := heap_alloc_new (w.alloc (.cells #[.int .i64 a, .int .i64 b] 61)) (.cells #[.int .i64 0, .int .i64 0] 61)
    rw [alloc_size] at h
    exact blk_alloc h _
  · have h := heap_alloc_new ((w.alloc (.cells #[.int .i64 a, .int .i64 b] 61)).alloc (.cells #[.int .i64 0, .int .i64 0] 61)) (.cells #[.int .i64 0, .int .i64 0] 61)
    rw [alloc_size, alloc_size] at h
    exact h
theorem Fst.below {B n3 n4 n5 : Nat} {a b u v : Int} {w0 w w' : World} (h : Fst B n3 n4 n5 a b u v w0 w) (hb : Below w.heap.size w w') : Fst B n3 n4 n5 a b u v w0 w' :=
  ⟨h.low.trans (hb.mono (by have := h.b3.lt; have := h.l3; omega)), blk_down h.b3 hb, blk_down h.b4 hb, blk_down h.b5 hb, h.l3, h.l34, h.l45⟩

set_option maxHeartbeats 8000000 in
set_option maxRecDepth 100000 in
theorem find_empty (v : Value) (a b : Int) (w : World) (hb : b ≤ 0) :
    Calls Try.prog 44 #[v, .agg #[.int .i64 a, .int .i64 b]] w fun e w' => e = .returned (Found ((a, b), (0, 0), false)) ∧ Below w.heap.size w w' := by
  have b0 : decide (b ≤ 0) = true := decide_eq_true hb
  clear hb
  have hst := Fst.start a b w
  have HST := Lib.hid hst
  clear hst
  go_enter Try.func44, Try.ntmps44
  go_upto_region 1 with (fail)
  have HST2 := HST
  revert HST
  generalize (((w.alloc (.cells #[.int .i64 a, .int .i64 b] 61)).alloc (.cells #[.int .i64 0, .int .i64 0] 61)).alloc (.cells #[.int .i64 0, .int .i64 0] 61)) = w3
  generalize w.heap.size + 1 + 1 = n5
  generalize w.heap.size + 1 = n4
  intro HST
  clear HST2
  obtain ⟨k30, k31, f30, f31⟩ := two_cells HST.out.b3
  go_wp2_with (first | (go_at_call 48; (with_reducible refine (empty_is _ _ _).mono ?_); rintro e w1 ⟨rfl, hb⟩; have HS1 := Lib.hid (HST.out.below hb); clear hb k30 k31 f30 f31))
  obtain ⟨k30, k31, f30, f31⟩ := two_cells HS1.out.b3
  obtain ⟨k40, k41, f40, f41⟩ := two_cells HS1.out.b4
  obtain ⟨k50, k51, f50, f51⟩ := two_cells HS1.out.b5
  have l34 := HS1.out.l34
  have l45 := HS1.out.l45
  go_region
  all_goals go_wp2
  all_goals (refine bodyPost_ret (v := .tuple #[.agg #[.int .i64 a, .int .i64 b], .agg #[.int .i64 0, .int .i64 0], .bool false]) (by simp [results, Try.results44, go_sem, k40, k41, k50, k51]) rfl ⟨rfl, ?_⟩)
  all_goals (repeat (first | exact HS1.out.low | refine Below.drew ?_ | refine Below.setCell ?_ (by have := HS1.out.l3; simp; omega) _))

/-- .. and the fourth. -/
structure Fst2 (B n3 n4 n5 n7 : Nat) (a b u v x y : Int) (w0 w : World) : Prop where
  st : Fst B n3 n4 n5 a b u v w0 w
  b7 : Blk n7 #[.int .i64 x, .int .i64 y] w
  l57 : n5 < n7
theorem Fst2.below {B n3 n4 n5 n7 : Nat} {a b u v x y : Int} {w0 w w' : World} (h : Fst2 B n3 n4 n5 n7 a b u v x y w0 w) (hb : Below w.heap.size w w') : Fst2 B n3 n4 n5 n7 a b u v x y w0 w' :=
  ⟨h.st.below hb, blk_down h.b7 hb, h.l57⟩
theorem Fst.one {B n3 n4 n5 : Nat} {a b u v : Int} {w0 w : World} (h : Fst B n3 n4 n5 a b u v w0 w) : Fst2 B n3 n4 n5 w.heap.size a b u v 0 0 w0 (w.alloc (.cells #[.int .i64 0, .int .i64 0] 61)) :=
  ⟨h.below ((Below.refl _ _).alloc (Nat.le_refl _) _), heap_alloc_new _ _, h.b5.lt⟩
theorem Fst2.set {B n3 n4 n5 n7 : Nat} {a b u v x y : Int} {w0 w : World} (h : Fst2 B n3 n4 n5 n7 a b u v x y w0 w) (p q : Int) : Fst2 B n3 n4 n5 n7 a b u v p q w0 ((w.setCell ⟨n7, 0, none⟩ (.int .i64 p)).setCell ⟨n7, 1, none⟩ (.int .i64 q)) := by
  have h1 := h.st.l3; have h2 := h.st.l34; have h3 := h.st.l45; have h4 := h.l57
  exact ⟨⟨(h.st.low.setCell (p := ⟨n7, 0, none⟩) (by simp; omega) _).setCell (p := ⟨n7, 1, none⟩) (by simp; omega) _, blk_far (blk_far h.st.b3 (by omega)) (by omega), blk_far (blk_far h.st.b4 (by omega)) (by omega), blk_far (blk_far h.st.b5 (by omega)) (by omega), h1, h2, h3⟩, blk_two h.b7, h4⟩

theorem Fst2.set3 {B n3 n4 n5 n7 : Nat} {a b u v x y : Int} {w0 w : World} (h : Fst2 B n3 n4 n5 n7 a b u v x y w0 w) (p q : Int) : Fst2 B n3 n4 n5 n7 p q u v x y w0 ((w.setCell ⟨n3, 0, none⟩ (.int .i64 p)).setCell ⟨n3, 1, none⟩ (.int .i64 q)) := by
  have h1 := h.st.l3; have h2 := h.st.l34; have h3 := h.st.l45; have h4 := h.l57
  exact ⟨⟨(h.st.low.setCell (p := ⟨n3, 0, none⟩) (by simp; omega) _).setCell (p := ⟨n3, 1, none⟩) (by simp; omega) _, blk_two h.st.b3, blk_far (blk_far h.st.b4 (by omega)) (by omega), blk_far (blk_far h.st.b5 (by omega)) (by omega), h1, h2, h3⟩, blk_far (blk_far h.b7 (by omega)) (by omega), h4⟩
theorem Fst2.set4 {B n3 n4 n5 n7 : Nat} {a b u v x y : Int} {w0 w : World} (h : Fst2 B n3 n4 n5 n7 a b u v x y w0 w) (p q : Int) : Fst2 B n3 n4 n5 n7 a b p q x y w0 ((w.setCell ⟨n4, 0, none⟩ (.int .i64 p)).setCell ⟨n4, 1, none⟩ (.int .i64 q)) := by
  have h1 := h.st.l3; have h2 := h.st.l34; have h3 := h.st.l45; have h4 := h.l57
  exact ⟨⟨(h.st.low.setCell (p := ⟨n4, 0, none⟩) (by simp; omega) _).setCell (p := ⟨n4, 1, none⟩) (by simp; omega) _, blk_far (blk_far h.st.b3 (by omega)) (by omega), blk_two h.st.b4, blk_far (blk_far h.st.b5 (by omega)) (by omega), h1, h2, h3⟩, blk_far (blk_far h.b7 (by omega)) (by omega), h4⟩
/-- Four cells of two blocks. -/
def S4 (n3 n4 : Nat) (a b c d : Value) (w : World) : Prop := w.cell? ⟨n3, 0, none⟩ = some a ∧ w.cell? ⟨n3, 1, none⟩ = some b ∧ w.cell? ⟨n4, 0, none⟩ = some c ∧ w.cell? ⟨n4, 1, none⟩ = some d
theorem keep_far {n3 n4 n5 : Nat} {a b c d x y : Value} {w : World} (h3 : n3 ≠ n5) (h4 : n4 ≠ n5) (h : S4 n3 n4 a b c d w.drew) : S4 n3 n4 a b c d ((w.setCell ⟨n5, 0, none⟩ x).setCell ⟨n5, 1, none⟩ y).drew := by
  have e : ∀ (m o : Nat), m ≠ n5 → ((w.setCell ⟨n5, 0, none⟩ x).setCell ⟨n5, 1, none⟩ y).cell? ⟨m, o, none⟩ = w.cell? ⟨m, o, none⟩ := fun m o hm => by
    rw [World.cell?_setCell_other _ _ _ _ (by intro e; injection e with e; exact hm e.symm), World.cell?_setCell_other _ _ _ _ (by intro e; injection e with e; exact hm e.symm)]
  exact ⟨(e n3 0 h3).trans h.1, (e n3 1 h3).trans h.2.1, (e n4 0 h4).trans h.2.2.1, (e n4 1 h4).trans h.2.2.2⟩
theorem keep_near {n3 n4 : Nat} {a b c d : Value} {w : World} (h3 : n3 ≠ n4) (h : S4 n3 n4 a b c d w.drew) : S4 n3 n4 a b c d ((w.setCell ⟨n4, 0, none⟩ c).setCell ⟨n4, 1, none⟩ d).drew := by
  have e : ∀ (o : Nat), ((w.setCell ⟨n4, 0, none⟩ c).setCell ⟨n4, 1, none⟩ d).cell? ⟨n3, o, none⟩ = w.cell? ⟨n3, o, none⟩ := fun o => by
    rw [World.cell?_setCell_other _ _ _ _ (by intro e; injection e with e; exact h3 e.symm), World.cell?_setCell_other _ _ _ _ (by intro e; injection e with e; exact h3 e.symm)]
  have h0 : w.cell? ⟨n4, 0, none⟩ = some c := h.2.2.1
  have h1 : w.cell? ⟨n4, 1, none⟩ = some d := h.2.2.2
  refine ⟨(e 0).trans h.1, (e 1).trans h.2.1, ?_, ?_⟩
  · show ((w.setCell ⟨n4, 0, none⟩ c).setCell ⟨n4, 1, none⟩ d).cell? ⟨n4, 0, none⟩ = _
    rw [World.cell?_setCell_other _ _ _ _ (by intro e; injection e with _ e; omega)]
    exact World.cell?_setCell_same _ _ _ h0
  · show ((w.setCell ⟨n4, 0, none⟩ c).setCell ⟨n4, 1, none⟩ d).cell? ⟨n4, 1, none⟩ = _
    exact World.cell?_setCell_same _ _ _ ((World.cell?_setCell_other _ _ _ _ (by intro e; injection e with _ e; omega)).trans h1)
theorem Fst2.out1 {n3 n4 n5 n7 : Nat} {a b u v x y : Int} {w0 w : World} (h : Fst2 n3 n3 n4 n5 n7 a b u v x y w0 w) (p q r s : Value) :
    Below n3 w0 ((((w.setCell ⟨n4, 0, none⟩ p).setCell ⟨n4, 1, none⟩ q).setCell ⟨n5, 0, none⟩ r).setCell ⟨n5, 1, none⟩ s) := by
  have h2 := h.st.l34; have h3 := h.st.l45
  exact ((((h.st.low.setCell (p := ⟨n4, 0, none⟩) (by simp; omega) _).setCell (p := ⟨n4, 1, none⟩) (by simp; omega) _).setCell (p := ⟨n5, 0, none⟩) (by simp; omega) _).setCell (p := ⟨n5, 1, none⟩) (by simp; omega) _)
theorem Fst2.out2 {n3 n4 n5 n7 : Nat} {a b u v x y : Int} {w0 w : World} (h : Fst2 n3 n3 n4 n5 n7 a b u v x y w0 w) (p q r s : Value) :
    Below n3 w0 ((((w.setCell ⟨n4, 0, none⟩ p).setCell ⟨n4, 1, none⟩ q).setCell ⟨n5, 0, none⟩ r).setCell ⟨n5, 1, none⟩ s).drew := by
  have h2 := h.st.l34; have h3 := h.st.l45
  exact ((((h.st.low.setCell (p := ⟨n4, 0, none⟩) (by simp; omega) _).setCell (p := ⟨n4, 1, none⟩) (by simp; omega) _).setCell (p := ⟨n5, 0, none⟩) (by simp; omega) _).setCell (p := ⟨n5, 1, none⟩) (by simp; omega) _).drew

set_option maxHeartbeats 16000000 in
set_option maxRecDepth 100000 in
theorem find_w1 (A : Option Addr) (c : Nat) (xs : List (Int × Int)) (a b : Int) (w : World) (hn : xs.length ≤ 1000000) (hr : kp.C w A xs.length xs) (hb : ¬ b ≤ 0) (hW : 0 < place xs a ∧ ¬ (inter (el xs (place xs a - 1)) (a, b)).2 ≤ 0) :
    Calls Try.prog 44 #[.slice A xs.length c, .agg #[.int .i64 a, .int .i64 b]] w fun e w' => e = .returned (Found (find xs (a, b))) ∧ Below w.heap.size w w' := by
  have HW := Lib.hid hW
  clear hW
  have b0 : decide (b ≤ 0) = false := decide_eq_false hb
  have hst := Fst.start a b w
  have HST := Lib.hid hst
  have HC := Lib.hid hr
  have HBN := Lib.hid hb
  have hpl := place_le xs a
  generalize hplace : place xs a = i at hpl
  have HPL := Lib.hid hplace
  clear hst hr hb hplace
  go_enter Try.func44, Try.ntmps44
  go_upto_region 1 with (fail)
  have HST2 := HST
  revert HST
  generalize (((w.alloc (.cells #[.int .i64 a, .int .i64 b] 61)).alloc (.cells #[.int .i64 0, .int .i64 0] 61)).alloc (.cells #[.int .i64 0, .int .i64 0] 61)) = w3
  generalize w.heap.size + 1 + 1 = n5
  generalize w.heap.size + 1 = n4
  generalize hn3 : w.heap.size = n3
  intro HST
  have HN3 := Lib.hid hn3
  clear HST2 hn3
  obtain ⟨k30, k31, f30, f31⟩ := two_cells HST.out.b3
  go_upto_if 19 with (first
    | (go_at_call 48; (with_reducible refine (empty_is _ _ _).mono ?_); rintro e w1 ⟨rfl, hb⟩; have HS1 := Lib.hid (HST.out.below hb); clear hb k30 k31 f30 f31; obtain ⟨k30, k31, f30, f31⟩ := two_cells HS1.out.b3; have l3 := HS1.out.b3.lt; have HS2 := Lib.hid HS1.out.one; have HCL := Lib.hid (search_C c A xs a b (w1.alloc (.cells #[.int .i64 0, .int .i64 0] 61)) hn (Kd.C_below HC.out (HN3.out ▸ HS2.out.st.low))))
    | (go_at_call 55; (with_reducible refine (HCL.out).mono ?_); rintro e w2 ⟨rfl, hb2⟩; rw [HPL.out]; have HS3 := Lib.hid (HS2.out.below hb2); clear hb2))
  clear HS2 HCL HS1 k30 k31 f30 f31 HST
  generalize w1.heap.size = n7 at *
  clear l3 w1 w3
  obtain ⟨p, hp⟩ : ∃ p, p = inter (el xs (i - 1)) (a, b) := ⟨_, rfl⟩
  have HP := Lib.hid hp
  clear hp
  have hfind1 : 0 < i ∧ ¬ p.2 ≤ 0 → find xs (a, b) = (p, (en p, wrap64 (b - p.2)), true) := by
    intro h
    unfold find
    rw [HPL.out, if_neg (by have := HBN.out; omega), ← HP.out, if_pos h]
  have HF1 := Lib.hid hfind1
  clear hfind1
  have hw := HW.out
  rw [HPL.out, ← HP.out] at hw
  obtain ⟨h0, hp2⟩ := hw
  have d0 : decide (0 < i) = true := decide_eq_true h0
  have d1 : IntKind.i64.wrap ((i : Int) - 1) = ((i - 1 : Nat) : Int) := by simp [IntKind.wrap, IntKind.signed, IntKind.bits]; omega
  have d1' : wrap64 ((i : Int) - 1) = ((i - 1 : Nat) : Int) := by unfold wrap64; omega
  have d2 : ((i - 1 : Nat) : Int) < (xs.length : Int) := by omega
  have d3 : (i : Int) - 1 < (xs.length : Int) := by omega
  have d4 : (0 : Int) ≤ (i : Int) - 1 := by omega
  obtain ⟨ad, rfl, c0, c1⟩ := kp_C (Kd.C_below HC.out (HN3.out ▸ HS3.out.st.low)) (i - 1) (by omega)
  have HIN : Hid (∀ w', Calls Try.prog 56 #[.agg #[.int .i64 (el xs (i - 1)).1, .int .i64 (el xs (i - 1)).2], .agg #[.int .i64 a, .int .i64 b]] w' fun e w'' => e = .returned (.agg #[.int .i64 p.1, .int .i64 p.2]) ∧ Below w'.heap.size w' w'') := Lib.hid (fun w' => by rw [HP.out]; exact inter_any _ _ a b w')
  generalize (el xs (i - 1)).1 = y1 at *
  generalize (el xs (i - 1)).2 = y2 at *
  obtain ⟨p1, p2⟩ := p
  have hp2 : ¬ p2 ≤ 0 := by simp at hp2; omega
  obtain ⟨k30, k31, f30, f31⟩ := two_cells HS3.out.st.b3
  have l3 := HS3.out.st.b3.lt
  have d5 : decide (p2 ≤ 0) = false := decide_eq_false hp2
  go_wp2_with (first
    | (go_at_call 56; (with_reducible refine (HIN.out _).mono ?_); rintro e w4 ⟨rfl, hb4⟩; have HS4 := Lib.hid ((HS3.out.below ((Below.refl _ _).alloc (Nat.le_refl _) _)).below hb4); clear hb4; obtain ⟨k70, k71, f70, f71⟩ := two_cells HS4.out.b7)
    | (go_at_call 48; (with_reducible refine (empty_is _ _ _).mono ?_); rintro e w5 ⟨rfl, hb5⟩; have HS5 := Lib.hid ((HS4.out.set p1 p2).below hb5); clear hb5 k70 k71 f70 f71 k30 k31 f30 f31; obtain ⟨k70, k71, f70, f71⟩ := two_cells HS5.out.b7)
    | (go_at_call 49; (with_reducible refine (end_is _ _ _).mono ?_); rintro e w6 ⟨rfl, hb6⟩; have HS6 := Lib.hid (HS5.out.below hb6); clear hb6 k70 k71 f70 f71; obtain ⟨k70, k71, f70, f71⟩ := two_cells HS6.out.b7; obtain ⟨k30, k31, f30, f31⟩ := two_cells HS6.out.st.b3; obtain ⟨k40, k41, f40, f41⟩ := two_cells HS6.out.st.b4; obtain ⟨k50, k51, f50, f51⟩ := two_cells HS6.out.st.b5; have l34 := HS6.out.st.l34; have l45 := HS6.out.st.l45; have l57 := HS6.out.l57))
  have HS7 := Lib.hid (HS6.out.set3 (wrap64 (p1 + p2)) (wrap64 (b - p2)))
  clear k30 k31 f30 f31 k40 k41 f40 f41 k50 k51 f50 f51 k70 k71 f70 f71
  generalize (w6.setCell ⟨n3, 0, none⟩ (.int .i64 (wrap64 (p1 + p2)))).setCell ⟨n3, 1, none⟩ (.int .i64 (wrap64 (b - p2))) = w7 at HS7 ⊢
  generalize hE : wrap64 (p1 + p2) = E at HS7 ⊢
  generalize hD : wrap64 (b - p2) = D at HS7 ⊢
  have HE := Lib.hid hE
  have HD := Lib.hid hD
  clear hE hD
  obtain ⟨k70, k71, f70, f71⟩ := two_cells HS7.out.b7
  obtain ⟨k30, k31, f30, f31⟩ := two_cells HS7.out.st.b3
  obtain ⟨k40, k41, f40, f41⟩ := two_cells HS7.out.st.b4
  obtain ⟨k50, k51, f50, f51⟩ := two_cells HS7.out.st.b5
  clear c0 c1 d0 d1 d1' d2 d3 d4 d5
  go_region
  all_goals go_wp2
  all_goals (refine bodyPost_ret (v := .tuple #[.agg #[.int .i64 p1, .int .i64 p2], .agg #[.int .i64 E, .int .i64 D], .bool true]) (by simp [results, Try.results44, go_sem, k40, k41, k50, k51]) rfl ?_)
  all_goals exact ⟨by rw [HF1.out ⟨h0, hp2⟩, ← HE.out, ← HD.out]; rfl, by rw [HN3.out]; exact HS7.out.out2 _ _ _ _⟩
set_option maxHeartbeats 16000000 in
set_option maxRecDepth 100000 in
theorem find_w2 (A : Option Addr) (c : Nat) (xs : List (Int × Int)) (a b : Int) (w : World) (hn : xs.length ≤ 1000000) (hr : kp.C w A xs.length xs) (hb : ¬ b ≤ 0) (hW : ¬ (0 < place xs a ∧ ¬ (inter (el xs (place xs a - 1)) (a, b)).2 ≤ 0)) (hI0 : xs.length ≤ place xs a) :
    Calls Try.prog 44 #[.slice A xs.length c, .agg #[.int .i64 a, .int .i64 b]] w fun e w' => e = .returned (Found (find xs (a, b))) ∧ Below w.heap.size w w' := by
  have HW := Lib.hid hW
  clear hW
  have HI0 := Lib.hid hI0
  clear hI0
  have b0 : decide (b ≤ 0) = false := decide_eq_false hb
  have hst := Fst.start a b w
  have HST := Lib.hid hst
  have HC := Lib.hid hr
  have HBN := Lib.hid hb
  have hpl := place_le xs a
  generalize hplace : place xs a = i at hpl
  have HPL := Lib.hid hplace
  clear hst hr hb hplace
  go_enter Try.func44, Try.ntmps44
  go_upto_region 1 with (fail)
  have HST2 := HST
  revert HST
  generalize (((w.alloc (.cells #[.int .i64 a, .int .i64 b] 61)).alloc (.cells #[.int .i64 0, .int .i64 0] 61)).alloc (.cells #[.int .i64 0, .int .i64 0] 61)) = w3
  generalize w.heap.size + 1 + 1 = n5
  generalize w.heap.size + 1 = n4
  generalize hn3 : w.heap.size = n3
  intro HST
  have HN3 := Lib.hid hn3
  clear HST2 hn3
  obtain ⟨k30, k31, f30, f31⟩ := two_cells HST.out.b3
  go_upto_if 19 with (first
    | (go_at_call 48; (with_reducible refine (empty_is _ _ _).mono ?_); rintro e w1 ⟨rfl, hb⟩; have HS1 := Lib.hid (HST.out.below hb); clear hb k30 k31 f30 f31; obtain ⟨k30, k31, f30, f31⟩ := two_cells HS1.out.b3; have l3 := HS1.out.b3.lt; have HS2 := Lib.hid HS1.out.one; have HCL := Lib.hid (search_C c A xs a b (w1.alloc (.cells #[.int .i64 0, .int .i64 0] 61)) hn (Kd.C_below HC.out (HN3.out ▸ HS2.out.st.low))))
    | (go_at_call 55; (with_reducible refine (HCL.out).mono ?_); rintro e w2 ⟨rfl, hb2⟩; rw [HPL.out]; have HS3 := Lib.hid (HS2.out.below hb2); clear hb2))
  clear HS2 HCL HS1 k30 k31 f30 f31 HST
  generalize w1.heap.size = n7 at *
  clear l3 w1 w3
  obtain ⟨p, hp⟩ : ∃ p, p = inter (el xs (i - 1)) (a, b) := ⟨_, rfl⟩
  have HP := Lib.hid hp
  clear hp
  have hfind1 : 0 < i ∧ ¬ p.2 ≤ 0 → find xs (a, b) = (p, (en p, wrap64 (b - p.2)), true) := by
    intro h
    unfold find
    rw [HPL.out, if_neg (by have := HBN.out; omega), ← HP.out, if_pos h]
  have HF1 := Lib.hid hfind1
  clear hfind1
  go_cut [] (fun wc => (∃ x y, Fst2 n3 n3 n4 n5 n7 a b 0 0 x y w wc) ∧ ¬ (0 < i ∧ ¬ p.2 ≤ 0))
  case first =>
    have hw := HW.out
    rw [HPL.out, ← HP.out] at hw
    by_cases h0 : 0 < i
    · have d0 : decide (0 < i) = true := decide_eq_true h0
      have d1 : IntKind.i64.wrap ((i : Int) - 1) = ((i - 1 : Nat) : Int) := by simp [IntKind.wrap, IntKind.signed, IntKind.bits]; omega
      have d1' : wrap64 ((i : Int) - 1) = ((i - 1 : Nat) : Int) := by unfold wrap64; omega
      have d2 : ((i - 1 : Nat) : Int) < (xs.length : Int) := by omega
      have d3 : (i : Int) - 1 < (xs.length : Int) := by omega
      have d4 : (0 : Int) ≤ (i : Int) - 1 := by omega
      obtain ⟨ad, rfl, c0, c1⟩ := kp_C (Kd.C_below HC.out (HN3.out ▸ HS3.out.st.low)) (i - 1) (by omega)
      have HIN : Hid (∀ w', Calls Try.prog 56 #[.agg #[.int .i64 (el xs (i - 1)).1, .int .i64 (el xs (i - 1)).2], .agg #[.int .i64 a, .int .i64 b]] w' fun e w'' => e = .returned (.agg #[.int .i64 p.1, .int .i64 p.2]) ∧ Below w'.heap.size w' w'') := Lib.hid (fun w' => by rw [HP.out]; exact inter_any _ _ a b w')
      generalize (el xs (i - 1)).1 = y1 at *
      generalize (el xs (i - 1)).2 = y2 at *
      obtain ⟨p1, p2⟩ := p
      obtain ⟨k30, k31, f30, f31⟩ := two_cells HS3.out.st.b3
      have l3 := HS3.out.st.b3.lt
      have hp2 : p2 ≤ 0 := by
        by_cases h : p2 ≤ 0
        · exact h
        · exact absurd ⟨h0, by simp; omega⟩ hw
      clear hw
      have d5 : decide (p2 ≤ 0) = true := decide_eq_true hp2
      go_wp2_with (first
        | (go_at_call 56; (with_reducible refine (HIN.out _).mono ?_); rintro e w4 ⟨rfl, hb4⟩; have HS4 := Lib.hid ((HS3.out.below ((Below.refl _ _).alloc (Nat.le_refl _) _)).below hb4); clear hb4; obtain ⟨k70, k71, f70, f71⟩ := two_cells HS4.out.b7)
        | (go_at_call 48; (with_reducible refine (empty_is _ _ _).mono ?_); rintro e w5 ⟨rfl, hb5⟩; have HS5 := Lib.hid ((HS4.out.set p1 p2).below hb5); clear hb5))
      go_meet
      case rel => exact ⟨⟨p1, p2, HS5.out⟩, fun h => absurd h.2 (by omega)⟩
    · have d0 : decide (0 < i) = false := decide_eq_false h0
      clear hw
      go_wp2
      go_meet
      case rel => exact ⟨⟨0, 0, HS3.out⟩, fun h => h0 h.1⟩
  case rest =>
    obtain ⟨⟨x7, y7, hs⟩, hno⟩ := hcut
    clear HS3 HF1
    have hfind2 : find xs (a, b) = if xs.length ≤ i then ((a, b), (0, 0), false)
        else if (inter (el xs i) (a, b)).2 ≤ 0 then ((a, b), (0, 0), false)
        else if a < (inter (el xs i) (a, b)).1 then
          ((a, wrap64 ((inter (el xs i) (a, b)).1 - a)), (wrap64 (a + wrap64 ((inter (el xs i) (a, b)).1 - a)), wrap64 (b - wrap64 ((inter (el xs i) (a, b)).1 - a))), false)
        else (inter (el xs i) (a, b), (en (inter (el xs i) (a, b)), wrap64 (b - (inter (el xs i) (a, b)).2)), true) := by
      conv => lhs; unfold find
      rw [HPL.out, if_neg (by have := HBN.out; omega), ← HP.out, if_neg hno]
    have HF2 := Lib.hid hfind2
    have HS3 := Lib.hid hs
    clear hfind2 hs hno HP
    clear p
    obtain ⟨k30, k31, f30, f31⟩ := two_cells HS3.out.st.b3
    have l3 := HS3.out.st.b3.lt
    have l34 := HS3.out.st.l34; have l45 := HS3.out.st.l45; have l57 := HS3.out.l57
    obtain ⟨k40, k41, f40, f41⟩ := two_cells HS3.out.st.b4
    obtain ⟨k50, k51, f50, f51⟩ := two_cells HS3.out.st.b5
    have hi := HI0.out
    rw [HPL.out] at hi
    have d0 : decide ((xs.length : Int) ≤ (i : Int)) = true := decide_eq_true (by omega)
    go_wp2
    refine bodyPost_ret (v := .tuple #[.agg #[.int .i64 a, .int .i64 b], .agg #[.int .i64 0, .int .i64 0], .bool false]) (by simp [results, Try.results44, go_sem, k40, k41, k50, k51]) rfl ?_
    exact ⟨by rw [HF2.out, if_pos hi]; rfl, by rw [HN3.out]; exact HS3.out.out1 _ _ _ _⟩
set_option maxHeartbeats 16000000 in
set_option maxRecDepth 100000 in
theorem find_w3 (A : Option Addr) (c : Nat) (xs : List (Int × Int)) (a b : Int) (w : World) (hn : xs.length ≤ 1000000) (hr : kp.C w A xs.length xs) (hb : ¬ b ≤ 0) (hW : ¬ (0 < place xs a ∧ ¬ (inter (el xs (place xs a - 1)) (a, b)).2 ≤ 0)) (hI0 : ¬ xs.length ≤ place xs a) (hQ2 : (inter (el xs (place xs a)) (a, b)).2 ≤ 0) :
    Calls Try.prog 44 #[.slice A xs.length c, .agg #[.int .i64 a, .int .i64 b]] w fun e w' => e = .returned (Found (find xs (a, b))) ∧ Below w.heap.size w w' := by
  have HW := Lib.hid hW
  clear hW
  have HI0 := Lib.hid hI0
  clear hI0
  have HQ2 := Lib.hid hQ2
  clear hQ2
  have b0 : decide (b ≤ 0) = false := decide_eq_false hb
  have hst := Fst.start a b w
  have HST := Lib.hid hst
  have HC := Lib.hid hr
  have HBN := Lib.hid hb
  have hpl := place_le xs a
  generalize hplace : place xs a = i at hpl
  have HPL := Lib.hid hplace
  clear hst hr hb hplace
  go_enter Try.func44, Try.ntmps44
  go_upto_region 1 with (fail)
  have HST2 := HST
  revert HST
  generalize (((w.alloc (.cells #[.int .i64 a, .int .i64 b] 61)).alloc (.cells #[.int .i64 0, .int .i64 0] 61)).alloc (.cells #[.int .i64 0, .int .i64 0] 61)) = w3
  generalize w.heap.size + 1 + 1 = n5
  generalize w.heap.size + 1 = n4
  generalize hn3 : w.heap.size = n3
  intro HST
  have HN3 := Lib.hid hn3
  clear HST2 hn3
  obtain ⟨k30, k31, f30, f31⟩ := two_cells HST.out.b3
  go_upto_if 19 with (first
    | (go_at_call 48; (with_reducible refine (empty_is _ _ _).mono ?_); rintro e w1 ⟨rfl, hb⟩; have HS1 := Lib.hid (HST.out.below hb); clear hb k30 k31 f30 f31; obtain ⟨k30, k31, f30, f31⟩ := two_cells HS1.out.b3; have l3 := HS1.out.b3.lt; have HS2 := Lib.hid HS1.out.one; have HCL := Lib.hid (search_C c A xs a b (w1.alloc (.cells #[.int .i64 0, .int .i64 0] 61)) hn (Kd.C_below HC.out (HN3.out ▸ HS2.out.st.low))))
    | (go_at_call 55; (with_reducible refine (HCL.out).mono ?_); rintro e w2 ⟨rfl, hb2⟩; rw [HPL.out]; have HS3 := Lib.hid (HS2.out.below hb2); clear hb2))
  clear HS2 HCL HS1 k30 k31 f30 f31 HST
  generalize w1.heap.size = n7 at *
  clear l3 w1 w3
  obtain ⟨p, hp⟩ : ∃ p, p = inter (el xs (i - 1)) (a, b) := ⟨_, rfl⟩
  have HP := Lib.hid hp
  clear hp
  have hfind1 : 0 < i ∧ ¬ p.2 ≤ 0 → find xs (a, b) = (p, (en p, wrap64 (b - p.2)), true) := by
    intro h
    unfold find
    rw [HPL.out, if_neg (by have := HBN.out; omega), ← HP.out, if_pos h]
  have HF1 := Lib.hid hfind1
  clear hfind1
  go_cut [] (fun wc => (∃ x y, Fst2 n3 n3 n4 n5 n7 a b 0 0 x y w wc) ∧ ¬ (0 < i ∧ ¬ p.2 ≤ 0))
  case first =>
    have hw := HW.out
    rw [HPL.out, ← HP.out] at hw
    by_cases h0 : 0 < i
    · have d0 : decide (0 < i) = true := decide_eq_true h0
      have d1 : IntKind.i64.wrap ((i : Int) - 1) = ((i - 1 : Nat) : Int) := by simp [IntKind.wrap, IntKind.signed, IntKind.bits]; omega
      have d1' : wrap64 ((i : Int) - 1) = ((i - 1 : Nat) : Int) := by unfold wrap64; omega
      have d2 : ((i - 1 : Nat) : Int) < (xs.length : Int) := by omega
      have d3 : (i : Int) - 1 < (xs.length : Int) := by omega
      have d4 : (0 : Int) ≤ (i : Int) - 1 := by omega
      obtain ⟨ad, rfl, c0, c1⟩ := kp_C (Kd.C_below HC.out (HN3.out ▸ HS3.out.st.low)) (i - 1) (by omega)
      have HIN : Hid (∀ w', Calls Try.prog 56 #[.agg #[.int .i64 (el xs (i - 1)).1, .int .i64 (el xs (i - 1)).2], .agg #[.int .i64 a, .int .i64 b]] w' fun e w'' => e = .returned (.agg #[.int .i64 p.1, .int .i64 p.2]) ∧ Below w'.heap.size w' w'') := Lib.hid (fun w' => by rw [HP.out]; exact inter_any _ _ a b w')
      generalize (el xs (i - 1)).1 = y1 at *
      generalize (el xs (i - 1)).2 = y2 at *
      obtain ⟨p1, p2⟩ := p
      obtain ⟨k30, k31, f30, f31⟩ := two_cells HS3.out.st.b3
      have l3 := HS3.out.st.b3.lt
      have hp2 : p2 ≤ 0 := by
        by_cases h : p2 ≤ 0
        · exact h
        · exact absurd ⟨h0, by simp; omega⟩ hw
      clear hw
      have d5 : decide (p2 ≤ 0) = true := decide_eq_true hp2
      go_wp2_with (first
        | (go_at_call 56; (with_reducible refine (HIN.out _).mono ?_); rintro e w4 ⟨rfl, hb4⟩; have HS4 := Lib.hid ((HS3.out.below ((Below.refl _ _).alloc (Nat.le_refl _) _)).below hb4); clear hb4; obtain ⟨k70, k71, f70, f71⟩ := two_cells HS4.out.b7)
        | (go_at_call 48; (with_reducible refine (empty_is _ _ _).mono ?_); rintro e w5 ⟨rfl, hb5⟩; have HS5 := Lib.hid ((HS4.out.set p1 p2).below hb5); clear hb5))
      go_meet
      case rel => exact ⟨⟨p1, p2, HS5.out⟩, fun h => absurd h.2 (by omega)⟩
    · have d0 : decide (0 < i) = false := decide_eq_false h0
      clear hw
      go_wp2
      go_meet
      case rel => exact ⟨⟨0, 0, HS3.out⟩, fun h => h0 h.1⟩
  case rest =>
    obtain ⟨⟨x7, y7, hs⟩, hno⟩ := hcut
    clear HS3 HF1
    have hfind2 : find xs (a, b) = if xs.length ≤ i then ((a, b), (0, 0), false)
        else if (inter (el xs i) (a, b)).2 ≤ 0 then ((a, b), (0, 0), false)
        else if a < (inter (el xs i) (a, b)).1 then
          ((a, wrap64 ((inter (el xs i) (a, b)).1 - a)), (wrap64 (a + wrap64 ((inter (el xs i) (a, b)).1 - a)), wrap64 (b - wrap64 ((inter (el xs i) (a, b)).1 - a))), false)
        else (inter (el xs i) (a, b), (en (inter (el xs i) (a, b)), wrap64 (b - (inter (el xs i) (a, b)).2)), true) := by
      conv => lhs; unfold find
      rw [HPL.out, if_neg (by have := HBN.out; omega), ← HP.out, if_neg hno]
    have HF2 := Lib.hid hfind2
    have HS3 := Lib.hid hs
    clear hfind2 hs hno HP
    clear p
    obtain ⟨k30, k31, f30, f31⟩ := two_cells HS3.out.st.b3
    have l3 := HS3.out.st.b3.lt
    have l34 := HS3.out.st.l34; have l45 := HS3.out.st.l45; have l57 := HS3.out.l57
    obtain ⟨k40, k41, f40, f41⟩ := two_cells HS3.out.st.b4
    obtain ⟨k50, k51, f50, f51⟩ := two_cells HS3.out.st.b5
    have hi := HI0.out
    rw [HPL.out] at hi
    have hq2 := HQ2.out
    rw [HPL.out] at hq2
    have d0 : decide ((xs.length : Int) ≤ (i : Int)) = false := decide_eq_false (by omega)
    have d2 : (i : Int) < (xs.length : Int) := by omega
    have hfind3 := HF2.out
    rw [if_neg hi] at hfind3
    clear HF2
    obtain ⟨ad, rfl, c0, c1⟩ := kp_C (Kd.C_below HC.out (HN3.out ▸ HS3.out.st.low)) i (by omega)
    have HIN0 : Hid (∀ w', Calls Try.prog 56 #[.agg #[.int .i64 (el xs i).1, .int .i64 (el xs i).2], .agg #[.int .i64 a, .int .i64 b]] w' fun e w'' => e = .returned (.agg #[.int .i64 (inter (el xs i) (a, b)).1, .int .i64 (inter (el xs i) (a, b)).2]) ∧ Below w'.heap.size w' w'') := Lib.hid (fun w' => inter_any _ _ a b w')
    revert HIN0 hfind3 hq2
    generalize inter (el xs i) (a, b) = q
    intro hq2 hfind3 HIN
    have HF3 := Lib.hid hfind3
    clear hfind3
    generalize (el xs i).1 = y1 at *
    generalize (el xs i).2 = y2 at *
    obtain ⟨p1, p2⟩ := q
    have hp2 : p2 ≤ 0 := hq2
    clear hq2
    have d5 : decide (p2 ≤ 0) = true := decide_eq_true hp2
    go_wp2_with (first
      | (go_at_call 56; (with_reducible refine (HIN.out _).mono ?_); rintro e w4 ⟨rfl, hb4⟩; have HS4 := Lib.hid ((HS3.out.below ((Below.refl _ _).alloc (Nat.le_refl _) _)).below hb4); clear hb4; obtain ⟨k70, k71, f70, f71⟩ := two_cells HS4.out.b7; clear k30 k31 f30 f31 k40 k41 f40 f41 k50 k51 f50 f51)
      | (go_at_call 48; (with_reducible refine (empty_is _ _ _).mono ?_); rintro e w5 ⟨rfl, hb5⟩; have HS5 := Lib.hid ((HS4.out.set p1 p2).below hb5); clear hb5 k70 k71 f70 f71; obtain ⟨k30, k31, f30, f31⟩ := two_cells HS5.out.st.b3; obtain ⟨k40, k41, f40, f41⟩ := two_cells HS5.out.st.b4; obtain ⟨k50, k51, f50, f51⟩ := two_cells HS5.out.st.b5))
    refine bodyPost_ret (v := .tuple #[.agg #[.int .i64 a, .int .i64 b], .agg #[.int .i64 0, .int .i64 0], .bool false]) (by simp [results, Try.results44, go_sem, k40, k41, k50, k51]) rfl ?_
    exact ⟨by rw [HF3.out, if_pos hp2]; rfl, by rw [HN3.out]; exact HS5.out.out1 _ _ _ _⟩
set_option maxHeartbeats 16000000 in
set_option maxRecDepth 100000 in
theorem find_w4 (A : Option Addr) (c : Nat) (xs : List (Int × Int)) (a b : Int) (w : World) (hn : xs.length ≤ 1000000) (hr : kp.C w A xs.length xs) (hb : ¬ b ≤ 0) (hW : ¬ (0 < place xs a ∧ ¬ (inter (el xs (place xs a - 1)) (a, b)).2 ≤ 0)) (hI0 : ¬ xs.length ≤ place xs a) (hQ2 : ¬ (inter (el xs (place xs a)) (a, b)).2 ≤ 0) (hQ3 : a < (inter (el xs (place xs a)) (a, b)).1) :
    Calls Try.prog 44 #[.slice A xs.length c, .agg #[.int .i64 a, .int .i64 b]] w fun e w' => e = .returned (Found (find xs (a, b))) ∧ Below w.heap.size w w' := by
  have HW := Lib.hid hW
  clear hW
  have HI0 := Lib.hid hI0
  clear hI0
  have HQ2 := Lib.hid hQ2
  clear hQ2
  have HQ3 := Lib.hid hQ3
  clear hQ3
  have b0 : decide (b ≤ 0) = false := decide_eq_false hb
  have hst := Fst.start a b w
  have HST := Lib.hid hst
  have HC := Lib.hid hr
  have HBN := Lib.hid hb
  have hpl := place_le xs a
  generalize hplace : place xs a = i at hpl
  have HPL := Lib.hid hplace
  clear hst hr hb hplace
  go_enter Try.func44, Try.ntmps44
  go_upto_region 1 with (fail)
  have HST2 := HST
  revert HST
  generalize (((w.alloc (.cells #[.int .i64 a, .int .i64 b] 61)).alloc (.cells #[.int .i64 0, .int .i64 0] 61)).alloc (.cells #[.int .i64 0, .int .i64 0] 61)) = w3
  generalize w.heap.size + 1 + 1 = n5
  generalize w.heap.size + 1 = n4
  generalize hn3 : w.heap.size = n3
  intro HST
  have HN3 := Lib.hid hn3
  clear HST2 hn3
  obtain ⟨k30, k31, f30, f31⟩ := two_cells HST.out.b3
  go_upto_if 19 with (first
    | (go_at_call 48; (with_reducible refine (empty_is _ _ _).mono ?_); rintro e w1 ⟨rfl, hb⟩; have HS1 := Lib.hid (HST.out.below hb); clear hb k30 k31 f30 f31; obtain ⟨k30, k31, f30, f31⟩ := two_cells HS1.out.b3; have l3 := HS1.out.b3.lt; have HS2 := Lib.hid HS1.out.one; have HCL := Lib.hid (search_C c A xs a b (w1.alloc (.cells #[.int .i64 0, .int .i64 0] 61)) hn (Kd.C_below HC.out (HN3.out ▸ HS2.out.st.low))))
    | (go_at_call 55; (with_reducible refine (HCL.out).mono ?_); rintro e w2 ⟨rfl, hb2⟩; rw [HPL.out]; have HS3 := Lib.hid (HS2.out.below hb2); clear hb2))
  clear HS2 HCL HS1 k30 k31 f30 f31 HST
  generalize w1.heap.size = n7 at *
  clear l3 w1 w3
  obtain ⟨p, hp⟩ : ∃ p, p = inter (el xs (i - 1)) (a, b) := ⟨_, rfl⟩
  have HP := Lib.hid hp
  clear hp
  have hfind1 : 0 < i ∧ ¬ p.2 ≤ 0 → find xs (a, b) = (p, (en p, wrap64 (b - p.2)), true) := by
    intro h
    unfold find
    rw [HPL.out, if_neg (by have := HBN.out; omega), ← HP.out, if_pos h]
  have HF1 := Lib.hid hfind1
  clear hfind1
  go_cut [] (fun wc => (∃ x y, Fst2 n3 n3 n4 n5 n7 a b 0 0 x y w wc) ∧ ¬ (0 < i ∧ ¬ p.2 ≤ 0))
  case first =>
    have hw := HW.out
    rw [HPL.out, ← HP.out] at hw
    by_cases h0 : 0 < i
    · have d0 : decide (0 < i) = true := decide_eq_true h0
      have d1 : IntKind.i64.wrap ((i : Int) - 1) = ((i - 1 : Nat) : Int) := by simp [IntKind.wrap, IntKind.signed, IntKind.bits]; omega
      have d1' : wrap64 ((i : Int) - 1) = ((i - 1 : Nat) : Int) := by unfold wrap64; omega
      have d2 : ((i - 1 : Nat) : Int) < (xs.length : Int) := by omega
      have d3 : (i : Int) - 1 < (xs.length : Int) := by omega
      have d4 : (0 : Int) ≤ (i : Int) - 1 := by omega
      obtain ⟨ad, rfl, c0, c1⟩ := kp_C (Kd.C_below HC.out (HN3.out ▸ HS3.out.st.low)) (i - 1) (by omega)
      have HIN : Hid (∀ w', Calls Try.prog 56 #[.agg #[.int .i64 (el xs (i - 1)).1, .int .i64 (el xs (i - 1)).2], .agg #[.int .i64 a, .int .i64 b]] w' fun e w'' => e = .returned (.agg #[.int .i64 p.1, .int .i64 p.2]) ∧ Below w'.heap.size w' w'') := Lib.hid (fun w' => by rw [HP.out]; exact inter_any _ _ a b w')
      generalize (el xs (i - 1)).1 = y1 at *
      generalize (el xs (i - 1)).2 = y2 at *
      obtain ⟨p1, p2⟩ := p
      obtain ⟨k30, k31, f30, f31⟩ := two_cells HS3.out.st.b3
      have l3 := HS3.out.st.b3.lt
      have hp2 : p2 ≤ 0 := by
        by_cases h : p2 ≤ 0
        · exact h
        · exact absurd ⟨h0, by simp; omega⟩ hw
      clear hw
      have d5 : decide (p2 ≤ 0) = true := decide_eq_true hp2
      go_wp2_with (first
        | (go_at_call 56; (with_reducible refine (HIN.out _).mono ?_); rintro e w4 ⟨rfl, hb4⟩; have HS4 := Lib.hid ((HS3.out.below ((Below.refl _ _).alloc (Nat.le_refl _) _)).below hb4); clear hb4; obtain ⟨k70, k71, f70, f71⟩ := two_cells HS4.out.b7)
        | (go_at_call 48; (with_reducible refine (empty_is _ _ _).mono ?_); rintro e w5 ⟨rfl, hb5⟩; have HS5 := Lib.hid ((HS4.out.set p1 p2).below hb5); clear hb5))
      go_meet
      case rel => exact ⟨⟨p1, p2, HS5.out⟩, fun h => absurd h.2 (by omega)⟩
    · have d0 : decide (0 < i) = false := decide_eq_false h0
      clear hw
      go_wp2
      go_meet
      case rel => exact ⟨⟨0, 0, HS3.out⟩, fun h => h0 h.1⟩
  case rest =>
    obtain ⟨⟨x7, y7, hs⟩, hno⟩ := hcut
    clear HS3 HF1
    have hfind2 : find xs (a, b) = if xs.length ≤ i then ((a, b), (0, 0), false)
        else if (inter (el xs i) (a, b)).2 ≤ 0 then ((a, b), (0, 0), false)
        else if a < (inter (el xs i) (a, b)).1 then
          ((a, wrap64 ((inter (el xs i) (a, b)).1 - a)), (wrap64 (a + wrap64 ((inter (el xs i) (a, b)).1 - a)), wrap64 (b - wrap64 ((inter (el xs i) (a, b)).1 - a))), false)
        else (inter (el xs i) (a, b), (en (inter (el xs i) (a, b)), wrap64 (b - (inter (el xs i) (a, b)).2)), true) := by
      conv => lhs; unfold find
      rw [HPL.out, if_neg (by have := HBN.out; omega), ← HP.out, if_neg hno]
    have HF2 := Lib.hid hfind2
    have HS3 := Lib.hid hs
    clear hfind2 hs hno HP
    clear p
    obtain ⟨k30, k31, f30, f31⟩ := two_cells HS3.out.st.b3
    have l3 := HS3.out.st.b3.lt
    have l34 := HS3.out.st.l34; have l45 := HS3.out.st.l45; have l57 := HS3.out.l57
    obtain ⟨k40, k41, f40, f41⟩ := two_cells HS3.out.st.b4
    obtain ⟨k50, k51, f50, f51⟩ := two_cells HS3.out.st.b5
    have hi := HI0.out
    rw [HPL.out] at hi
    have hq2 := HQ2.out
    rw [HPL.out] at hq2
    have hq3 := HQ3.out
    rw [HPL.out] at hq3
    have d0 : decide ((xs.length : Int) ≤ (i : Int)) = false := decide_eq_false (by omega)
    have d2 : (i : Int) < (xs.length : Int) := by omega
    have hfind3 := HF2.out
    rw [if_neg hi] at hfind3
    clear HF2
    obtain ⟨ad, rfl, c0, c1⟩ := kp_C (Kd.C_below HC.out (HN3.out ▸ HS3.out.st.low)) i (by omega)
    have HIN0 : Hid (∀ w', Calls Try.prog 56 #[.agg #[.int .i64 (el xs i).1, .int .i64 (el xs i).2], .agg #[.int .i64 a, .int .i64 b]] w' fun e w'' => e = .returned (.agg #[.int .i64 (inter (el xs i) (a, b)).1, .int .i64 (inter (el xs i) (a, b)).2]) ∧ Below w'.heap.size w' w'') := Lib.hid (fun w' => inter_any _ _ a b w')
    revert HIN0 hfind3 hq2 hq3
    generalize inter (el xs i) (a, b) = q
    intro hq2 hq3 hfind3 HIN
    have HF3 := Lib.hid hfind3
    clear hfind3
    generalize (el xs i).1 = y1 at *
    generalize (el xs i).2 = y2 at *
    obtain ⟨p1, p2⟩ := q
    have hp2 : ¬ p2 ≤ 0 := by simpa using hq2
    have hlt : a < p1 := by simpa using hq3
    clear hq2 hq3
    have d5 : decide (p2 ≤ 0) = false := decide_eq_false hp2
    have hfind4 := HF3.out
    rw [if_neg hp2] at hfind4
    have HF4 := Lib.hid hfind4
    clear hfind4 HF3
    have d6 : decide (a < p1) = true := decide_eq_true hlt
    go_upto_region 19 with (first
      | (go_at_call 56; (with_reducible refine (HIN.out _).mono ?_); rintro e w4 ⟨rfl, hb4⟩; have HS4 := Lib.hid ((HS3.out.below ((Below.refl _ _).alloc (Nat.le_refl _) _)).below hb4); clear hb4; obtain ⟨k70, k71, f70, f71⟩ := two_cells HS4.out.b7; clear k30 k31 f30 f31 k40 k41 f40 f41 k50 k51 f50 f51)
      | (go_at_call 48; (with_reducible refine (empty_is _ _ _).mono ?_); rintro e w5 ⟨rfl, hb5⟩; have HS5 := Lib.hid ((HS4.out.set p1 p2).below hb5); clear hb5 k70 k71 f70 f71; obtain ⟨k70, k71, f70, f71⟩ := two_cells HS5.out.b7; obtain ⟨k30, k31, f30, f31⟩ := two_cells HS5.out.st.b3; obtain ⟨k40, k41, f40, f41⟩ := two_cells HS5.out.st.b4; obtain ⟨k50, k51, f50, f51⟩ := two_cells HS5.out.st.b5))
    go_cut [] (fun wd => Fst2 n3 n3 n4 n5 n7 a b a (wrap64 (p1 - a)) p1 p2 w wd)
    case first =>
      go_wp2
      go_meet
      case rel => exact HS5.out.set4 a (wrap64 (p1 - a))
    case rest =>
      have HS5b := Lib.hid hcut
      clear hcut k30 k31 f30 f31 k40 k41 f40 f41 k50 k51 f50 f51 k70 k71 f70 f71 HS5 HS4 HIN
      obtain ⟨k30, k31, f30, f31⟩ := two_cells HS5b.out.st.b3; obtain ⟨k40, k41, f40, f41⟩ := two_cells HS5b.out.st.b4
      go_upto_region 22 with (go_at_call 49; (with_reducible refine (end_is _ _ _).mono ?_); rintro e w6 ⟨rfl, hb6⟩; have HS6 := Lib.hid (HS5b.out.below hb6); clear hb6 k30 k31 f30 f31 k40 k41 f40 f41; obtain ⟨k30, k31, f30, f31⟩ := two_cells HS6.out.st.b3; obtain ⟨k40, k41, f40, f41⟩ := two_cells HS6.out.st.b4)
      have HS7 := Lib.hid (HS6.out.set3 (wrap64 (a + wrap64 (p1 - a))) (wrap64 (b - wrap64 (p1 - a))))
      clear k30 k31 f30 f31 k40 k41 f40 f41
      generalize (w6.setCell ⟨n3, 0, none⟩ (.int .i64 (wrap64 (a + wrap64 (p1 - a))))).setCell ⟨n3, 1, none⟩ (.int .i64 (wrap64 (b - wrap64 (p1 - a)))) = w7 at HS7 ⊢
      generalize hD : wrap64 (b - wrap64 (p1 - a)) = D at HS7
      generalize hE : wrap64 (a + wrap64 (p1 - a)) = E at HS7
      generalize hC : wrap64 (p1 - a) = C at HS7
      have HC2 := Lib.hid hC
      have HE := Lib.hid hE
      have HD := Lib.hid hD
      clear hE hD hC
      refine reg22 l34 l45 HS7.out.st.b3 HS7.out.st.b4 HS7.out.st.b5 ?_
      obtain ⟨k40, k41, f40, f41⟩ := two_cells HS7.out.st.b4
      obtain ⟨k50, k51, f50, f51⟩ := two_cells HS7.out.st.b5
      all_goals go_wp2
      exact end44 (p := a) (q := C) (r := E) (s := D) (blk_drew (blk_far (blk_far (blk_two HS7.out.st.b4) (by omega)) (by omega))) (blk_drew (blk_two (blk_far (blk_far HS7.out.st.b5 (by omega)) (by omega)))) ⟨by rw [HF4.out, if_pos hlt, ← HC2.out, ← HE.out, ← HD.out]; rfl, by rw [HN3.out]; exact HS7.out.out2 _ _ _ _⟩
set_option maxHeartbeats 16000000 in
set_option maxRecDepth 100000 in
theorem find_w5 (A : Option Addr) (c : Nat) (xs : List (Int × Int)) (a b : Int) (w : World) (hn : xs.length ≤ 1000000) (hr : kp.C w A xs.length xs) (hb : ¬ b ≤ 0) (hW : ¬ (0 < place xs a ∧ ¬ (inter (el xs (place xs a - 1)) (a, b)).2 ≤ 0)) (hI0 : ¬ xs.length ≤ place xs a) (hQ2 : ¬ (inter (el xs (place xs a)) (a, b)).2 ≤ 0) (hQ3 : ¬ a < (inter (el xs (place xs a)) (a, b)).1) :
    Calls Try.prog 44 #[.slice A xs.length c, .agg #[.int .i64 a, .int .i64 b]] w fun e w' => e = .returned (Found (find xs (a, b))) ∧ Below w.heap.size w w' := by
  have HW := Lib.hid hW
  clear hW
  have HI0 := Lib.hid hI0
  clear hI0
  have HQ2 := Lib.hid hQ2
  clear hQ2
  have HQ3 := Lib.hid hQ3
  clear hQ3
  have b0 : decide (b ≤ 0) = false := decide_eq_false hb
  have hst := Fst.start a b w
  have HST := Lib.hid hst
  have HC := Lib.hid hr
  have HBN := Lib.hid hb
  have hpl := place_le xs a
  generalize hplace : place xs a = i at hpl
  have HPL := Lib.hid hplace
  clear hst hr hb hplace
  go_enter Try.func44, Try.ntmps44
  go_upto_region 1 with (fail)
  have HST2 := HST
  revert HST
  generalize (((w.alloc (.cells #[.int .i64 a, .int .i64 b] 61)).alloc (.cells #[.int .i64 0, .int .i64 0] 61)).alloc (.cells #[.int .i64 0, .int .i64 0] 61)) = w3
  generalize w.heap.size + 1 + 1 = n5
  generalize w.heap.size + 1 = n4
  generalize hn3 : w.heap.size = n3
  intro HST
  have HN3 := Lib.hid hn3
  clear HST2 hn3
  obtain ⟨k30, k31, f30, f31⟩ := two_cells HST.out.b3
  go_upto_if 19 with (first
    | (go_at_call 48; (with_reducible refine (empty_is _ _ _).mono ?_); rintro e w1 ⟨rfl, hb⟩; have HS1 := Lib.hid (HST.out.below hb); clear hb k30 k31 f30 f31; obtain ⟨k30, k31, f30, f31⟩ := two_cells HS1.out.b3; have l3 := HS1.out.b3.lt; have HS2 := Lib.hid HS1.out.one; have HCL := Lib.hid (search_C c A xs a b (w1.alloc (.cells #[.int .i64 0, .int .i64 0] 61)) hn (Kd.C_below HC.out (HN3.out ▸ HS2.out.st.low))))
    | (go_at_call 55; (with_reducible refine (HCL.out).mono ?_); rintro e w2 ⟨rfl, hb2⟩; rw [HPL.out]; have HS3 := Lib.hid (HS2.out.below hb2); clear hb2))
  clear HS2 HCL HS1 k30 k31 f30 f31 HST
  generalize w1.heap.size = n7 at *
  clear l3 w1 w3
  obtain ⟨p, hp⟩ : ∃ p, p = inter (el xs (i - 1)) (a, b) := ⟨_, rfl⟩
  have HP := Lib.hid hp
  clear hp
  have hfind1 : 0 < i ∧ ¬ p.2 ≤ 0 → find xs (a, b) = (p, (en p, wrap64 (b - p.2)), true) := by
    intro h
    unfold find
    rw [HPL.out, if_neg (by have := HBN.out; omega), ← HP.out, if_pos h]
  have HF1 := Lib.hid hfind1
  clear hfind1
  go_cut [] (fun wc => (∃ x y, Fst2 n3 n3 n4 n5 n7 a b 0 0 x y w wc) ∧ ¬ (0 < i ∧ ¬ p.2 ≤ 0))
  case first =>
    have hw := HW.out
    rw [HPL.out, ← HP.out] at hw
    by_cases h0 : 0 < i
    · have d0 : decide (0 < i) = true := decide_eq_true h0
      have d1 : IntKind.i64.wrap ((i : Int) - 1) = ((i - 1 : Nat) : Int) := by simp [IntKind.wrap, IntKind.signed, IntKind.bits]; omega
      have d1' : wrap64 ((i : Int) - 1) = ((i - 1 : Nat) : Int) := by unfold wrap64; omega
      have d2 : ((i - 1 : Nat) : Int) < (xs.length : Int) := by omega
      have d3 : (i : Int) - 1 < (xs.length : Int) := by omega
      have d4 : (0 : Int) ≤ (i : Int) - 1 := by omega
      obtain ⟨ad, rfl, c0, c1⟩ := kp_C (Kd.C_below HC.out (HN3.out ▸ HS3.out.st.low)) (i - 1) (by omega)
      have HIN : Hid (∀ w', Calls Try.prog 56 #[.agg #[.int .i64 (el xs (i - 1)).1, .int .i64 (el xs (i - 1)).2], .agg #[.int .i64 a, .int .i64 b]] w' fun e w'' => e = .returned (.agg #[.int .i64 p.1, .int .i64 p.2]) ∧ Below w'.heap.size w' w'') := Lib.hid (fun w' => by rw [HP.out]; exact inter_any _ _ a b w')
      generalize (el xs (i - 1)).1 = y1 at *
      generalize (el xs (i - 1)).2 = y2 at *
      obtain ⟨p1, p2⟩ := p
      obtain ⟨k30, k31, f30, f31⟩ := two_cells HS3.out.st.b3
      have l3 := HS3.out.st.b3.lt
      have hp2 : p2 ≤ 0 := by
        by_cases h : p2 ≤ 0
        · exact h
        · exact absurd ⟨h0, by simp; omega⟩ hw
      clear hw
      have d5 : decide (p2 ≤ 0) = true := decide_eq_true hp2
      go_wp2_with (first
        | (go_at_call 56; (with_reducible refine (HIN.out _).mono ?_); rintro e w4 ⟨rfl, hb4⟩; have HS4 := Lib.hid ((HS3.out.below ((Below.refl _ _).alloc (Nat.le_refl _) _)).below hb4); clear hb4; obtain ⟨k70, k71, f70, f71⟩ := two_cells HS4.out.b7)
        | (go_at_call 48; (with_reducible refine (empty_is _ _ _).mono ?_); rintro e w5 ⟨rfl, hb5⟩; have HS5 := Lib.hid ((HS4.out.set p1 p2).below hb5); clear hb5))
      go_meet
      case rel => exact ⟨⟨p1, p2, HS5.out⟩, fun h => absurd h.2 (by omega)⟩
    · have d0 : decide (0 < i) = false := decide_eq_false h0
      clear hw
      go_wp2
      go_meet
      case rel => exact ⟨⟨0, 0, HS3.out⟩, fun h => h0 h.1⟩
  case rest =>
    obtain ⟨⟨x7, y7, hs⟩, hno⟩ := hcut
    clear HS3 HF1
    have hfind2 : find xs (a, b) = if xs.length ≤ i then ((a, b), (0, 0), false)
        else if (inter (el xs i) (a, b)).2 ≤ 0 then ((a, b), (0, 0), false)
        else if a < (inter (el xs i) (a, b)).1 then
          ((a, wrap64 ((inter (el xs i) (a, b)).1 - a)), (wrap64 (a + wrap64 ((inter (el xs i) (a, b)).1 - a)), wrap64 (b - wrap64 ((inter (el xs i) (a, b)).1 - a))), false)
        else (inter (el xs i) (a, b), (en (inter (el xs i) (a, b)), wrap64 (b - (inter (el xs i) (a, b)).2)), true) := by
      conv => lhs; unfold find
      rw [HPL.out, if_neg (by have := HBN.out; omega), ← HP.out, if_neg hno]
    have HF2 := Lib.hid hfind2
    have HS3 := Lib.hid hs
    clear hfind2 hs hno HP
    clear p
    obtain ⟨k30, k31, f30, f31⟩ := two_cells HS3.out.st.b3
    have l3 := HS3.out.st.b3.lt
    have l34 := HS3.out.st.l34; have l45 := HS3.out.st.l45; have l57 := HS3.out.l57
    obtain ⟨k40, k41, f40, f41⟩ := two_cells HS3.out.st.b4
    obtain ⟨k50, k51, f50, f51⟩ := two_cells HS3.out.st.b5
    have hi := HI0.out
    rw [HPL.out] at hi
    have hq2 := HQ2.out
    rw [HPL.out] at hq2
    have hq3 := HQ3.out
    rw [HPL.out] at hq3
    have d0 : decide ((xs.length : Int) ≤ (i : Int)) = false := decide_eq_false (by omega)
    have d2 : (i : Int) < (xs.length : Int) := by omega
    have hfind3 := HF2.out
    rw [if_neg hi] at hfind3
    clear HF2
    obtain ⟨ad, rfl, c0, c1⟩ := kp_C (Kd.C_below HC.out (HN3.out ▸ HS3.out.st.low)) i (by omega)
    have HIN0 : Hid (∀ w', Calls Try.prog 56 #[.agg #[.int .i64 (el xs i).1, .int .i64 (el xs i).2], .agg #[.int .i64 a, .int .i64 b]] w' fun e w'' => e = .returned (.agg #[.int .i64 (inter (el xs i) (a, b)).1, .int .i64 (inter (el xs i) (a, b)).2]) ∧ Below w'.heap.size w' w'') := Lib.hid (fun w' => inter_any _ _ a b w')
    revert HIN0 hfind3 hq2 hq3
    generalize inter (el xs i) (a, b) = q
    intro hq2 hq3 hfind3 HIN
    have HF3 := Lib.hid hfind3
    clear hfind3
    generalize (el xs i).1 = y1 at *
    generalize (el xs i).2 = y2 at *
    obtain ⟨p1, p2⟩ := q
    have hp2 : ¬ p2 ≤ 0 := by simpa using hq2
    have hlt : ¬ a < p1 := by simpa using hq3
    clear hq2 hq3
    have d5 : decide (p2 ≤ 0) = false := decide_eq_false hp2
    have hfind4 := HF3.out
    rw [if_neg hp2] at hfind4
    have HF4 := Lib.hid hfind4
    clear hfind4 HF3
    have d6 : decide (a < p1) = false := decide_eq_false hlt
    go_upto_region 25 with (first
      | (go_at_call 56; (with_reducible refine (HIN.out _).mono ?_); rintro e w4 ⟨rfl, hb4⟩; have HS4 := Lib.hid ((HS3.out.below ((Below.refl _ _).alloc (Nat.le_refl _) _)).below hb4); clear hb4; obtain ⟨k70, k71, f70, f71⟩ := two_cells HS4.out.b7; clear k30 k31 f30 f31 k40 k41 f40 f41 k50 k51 f50 f51)
      | (go_at_call 48; (with_reducible refine (empty_is _ _ _).mono ?_); rintro e w5 ⟨rfl, hb5⟩; have HS5 := Lib.hid ((HS4.out.set p1 p2).below hb5); clear hb5 k70 k71 f70 f71; obtain ⟨k70, k71, f70, f71⟩ := two_cells HS5.out.b7; obtain ⟨k30, k31, f30, f31⟩ := two_cells HS5.out.st.b3)
      | (go_at_call 49; (with_reducible refine (end_is _ _ _).mono ?_); rintro e w6 ⟨rfl, hb6⟩; have HS6 := Lib.hid (HS5.out.below hb6); clear hb6 k70 k71 f70 f71 k30 k31 f30 f31; obtain ⟨k70, k71, f70, f71⟩ := two_cells HS6.out.b7; obtain ⟨k30, k31, f30, f31⟩ := two_cells HS6.out.st.b3))
    have HS7 := Lib.hid (HS6.out.set3 (wrap64 (p1 + p2)) (wrap64 (b - p2)))
    clear k30 k31 f30 f31 k70 k71 f70 f71
    generalize (w6.setCell ⟨n3, 0, none⟩ (.int .i64 (wrap64 (p1 + p2)))).setCell ⟨n3, 1, none⟩ (.int .i64 (wrap64 (b - p2))) = w7 at HS7 ⊢
    generalize hD : wrap64 (b - p2) = D at HS7 ⊢
    generalize hE : wrap64 (p1 + p2) = E at HS7 ⊢
    have HE := Lib.hid hE
    have HD := Lib.hid hD
    clear hE hD
    obtain ⟨k30, k31, f30, f31⟩ := two_cells HS7.out.st.b3
    obtain ⟨k40, k41, f40, f41⟩ := two_cells HS7.out.st.b4
    obtain ⟨k50, k51, f50, f51⟩ := two_cells HS7.out.st.b5
    obtain ⟨k70, k71, f70, f71⟩ := two_cells HS7.out.b7
    clear c0 c1 d0 d2 d5 d6
    go_region
    all_goals go_wp2
    all_goals (refine bodyPost_ret (v := .tuple #[.agg #[.int .i64 p1, .int .i64 p2], .agg #[.int .i64 E, .int .i64 D], .bool true]) (by simp [results, Try.results44, go_sem, k40, k41, k50, k51]) rfl ?_)
    all_goals exact ⟨by rw [HF4.out, if_neg (by omega)]; show _ = Ending.returned (Found ((p1, p2), (wrap64 (p1 + p2), wrap64 (b - p2)), true)); rw [HE.out, HD.out]; rfl, by rw [HN3.out]; exact HS7.out.out2 _ _ _ _⟩
/-- FIND. -/
theorem find_all (A : Option Addr) (c : Nat) (xs : List (Int × Int)) (r : Int × Int) (w : World) (hn : xs.length ≤ 1000000) (hr : kp.C w A xs.length xs) :
    Calls Try.prog 44 #[.slice A xs.length c, .agg #[.int .i64 r.1, .int .i64 r.2]] w fun e w' => e = .returned (Found (find xs r)) ∧ Below w.heap.size w w' := by
  by_cases hb : r.2 ≤ 0
  · have e : find xs r = (r, (0, 0), false) := by unfold find; rw [if_pos hb]
    rw [e]; exact find_empty _ r.1 r.2 w hb
  · by_cases hW : 0 < place xs r.1 ∧ ¬ (inter (el xs (place xs r.1 - 1)) (r.1, r.2)).2 ≤ 0
    · exact find_w1 A c xs r.1 r.2 w hn hr hb hW
    · by_cases h0 : xs.length ≤ place xs r.1
      · exact find_w2 A c xs r.1 r.2 w hn hr hb hW h0
      · by_cases h2 : (inter (el xs (place xs r.1)) (r.1, r.2)).2 ≤ 0
        · exact find_w3 A c xs r.1 r.2 w hn hr hb hW h0 h2
        · by_cases h3 : r.1 < (inter (el xs (place xs r.1)) (r.1, r.2)).1
          · exact find_w4 A c xs r.1 r.2 w hn hr hb hW h0 h2 h3
          · exact find_w5 A c xs r.1 r.2 w hn hr hb hW h0 h2 h3
end Go.Proofs.Ytfegihmnpcjdgaa.Rang
