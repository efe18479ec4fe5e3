import Derived.Test.YtlgoghonnnobfaaDoorSpl
import Derived.Test.YtlgoghonnnobfaaDoorNto
import Derived.Test.YtlgoghonnnobfaaDoorShj
import Derived.Laws.MakeOwn
import Derived.Lib.Join
namespace Go.Proofs.YtlgoghonnnobfaaDoor.Pth
open Go Go.RowKit Go.Proofs.YtlgoghonnnobfaaDoor.Fr
open Go.Proofs.YtlgoghonnnobfaaDoor.Enc (piece)
open Go.Proofs.YtlgoghonnnobfaaDoor.Sym Go.Proofs.YtlgoghonnnobfaaDoor.Spl Go.Proofs.YtlgoghonnnobfaaDoor.Nto Go.Proofs.YtlgoghonnnobfaaDoorW.PrintWords Go.Proofs.YtlgoghonnnobfaaDoorW.PrintLast Go.Proofs.YtlgoghonnnobfaaDoorW.PrintMore
set_option linter.unusedVariables false
set_option linter.unusedSimpArgs false
/-! ### paths in the Standard's writing, walked -/
theorem enters53 : Enters Tryd.prog 53 := enters_of Tryd.func53 (by kernel_rfl) rfl
theorem enters72 : Enters Tryd.prog 72 := enters_of Tryd.func72 (by kernel_rfl) rfl
theorem enters71 : Enters Tryd.prog 71 := enters_of Tryd.func71 (by kernel_rfl) rfl
theorem enters70' : Enters Tryd.prog 70 := enters_of Tryd.func70 (by kernel_rfl) rfl
theorem oldB {w w' : World} {k : Nat} {o : Obj} (hb : Below w.heap.size w w') (h : w.heap[k]? = some o) : w'.heap[k]? = some o :=
  (hb.block k (Array.getElem?_eq_some_iff.1 h).1).trans h
section
variable {w w' : World} {l : Slots} {x y z : Operand} {d : Option Tmp} {t ty : TypeId} {pos : String} {aft : Array Edge} {g : Option (Nat × Bool)} {v v1 v2 : Value}
theorem x_mki {v : Value} (hx : ev l x = some v) (hr : (Instr.makeInterface 39 v).run Tryd.prog w = .ok (.iface 39 v) w) :
    Ex Tryd.prog l w { dst := d, op := .makeInterface 39 x, type := ty, pos := pos, after := aft, guard := g } (.iface 39 v) w := fun N a h => by
  simp only [execOp, h.ev hx]
  simp [go_sem, hr]
theorem run_mki (m : Int) (w : World) : (Instr.makeInterface 39 (.int .u64 m)).run Tryd.prog w = .ok (.iface 39 (.int .u64 m)) w := by kernel_rfl
theorem x_eqi {m k : Int} (hx : ev l x = some (.iface 39 (.int .u64 m))) (hy : ev l y = some (.iface 39 (.int .u64 k))) :
    Ex Tryd.prog l w { dst := d, op := .binOp .eql 87 x y 87, type := ty, pos := pos, after := aft, guard := g } (.bool (m == k)) w := fun N a h => by
  simp only [execOp, h.ev hx, h.ev hy]
  have := eql87 m k w
  simp [go_sem, this]
theorem x_make {n : Nat} (hx : ev l x = some (.int .i64 (n : Int))) (hy : ev l y = some (.int .i64 (n : Int))) (hr : (Instr.makeSlice 27 (.int .i64 (n : Int)) (.int .i64 (n : Int))).run Tryd.prog w = .ok v w') :
    Ex Tryd.prog l w { dst := d, op := .makeSlice 27 x y, type := ty, pos := pos, after := aft, guard := g } v w' := fun N a h => by
  simp only [execOp, h.ev hx, h.ev hy]
  simp only [Sem.run_bind, Sem.run_pure, Result.andThen_ok, hr]
theorem x_elS {ad : Addr} {n c k : Nat} (hx : ev l x = some (.slice (some ad) n c)) (hy : ev l y = some (.int .i64 (k : Int))) (hk : k < n) :
    Ex Tryd.prog l w { dst := d, op := .indexAddr 27 x y, type := ty, pos := pos, after := aft, guard := g } (.pointer (some (ad.add k))) w := by
  have hinf := infStr
  cases e : Tryd.prog.info? 9 with
  | none => rw [e] at hinf; cases hinf
  | some i =>
    rw [e] at hinf
    simp only [Option.map_some, Option.some.injEq, Prod.mk.injEq] at hinf
    have := x_elem (P := Tryd.prog) (w := w) (d := d) (ty := ty) (pos := pos) (aft := aft) (g := g) Tryd.underlying27 e hinf.2.1 hx hy (by omega) (by omega)
    rwa [Int.toNat_natCast, Nat.mul_one] at this
theorem run_storeS {b k : Nat} {s : ByteArray} {cur : Array Value} {a : Act} {N : Nat} (h : Fm N l a) (hx : ev l x = some (.pointer (some ((⟨b, 0, none⟩ : Addr).add k)))) (hy : ev l y = some (.string s)) (hb : w.heap[b]? = some (.cells cur 9 (0, 0))) (hk : k < cur.size) :
    (execOp a.eval { dst := none, op := .store 9 x y, type := ty, pos := pos, after := aft, guard := g }).run Tryd.prog w = .ok .skip (w.setRow b (cur.setIfInBounds k (.string s))) := by
  have e : (⟨b, 0, none⟩ : Addr).add k = ⟨b, k, none⟩ := by unfold Addr.add; split <;> simp_all
  rw [e] at hx
  simp only [execOp, h.ev hx, h.ev hy]
  have hu := Tryd.underlying9
  have e0 : w.cell? ⟨b, k, none⟩ = some cur[k] := by simp [World.cell?, hb, hk]
  have f0 : w.frozen? ⟨b, k, none⟩ = false := by simp [World.frozen?, hb]
  have s0 : w.setCell ⟨b, k, none⟩ (.string s) = w.setRow b (cur.setIfInBounds k (.string s)) := setCell_eq_setRow w b k cur 9 (0, 0) (.string s) hb
  simp [go_sem, hu, run_isAgg_plain hu rfl, e0, f0, s0]
theorem x_not {b : Bool} (hx : ev l x = some (.bool b)) :
    Ex Tryd.prog l w { dst := d, op := .unOp .not 4 x, type := ty, pos := pos, after := aft, guard := g } (.bool (!b)) w := fun N a h => by
  simp only [execOp, h.ev hx]
  have hu := Tryd.underlying4
  simp [go_sem, hu]
theorem x_neqs {s1 s2 : ByteArray} (hx : ev l x = some (.string s1)) (hy : ev l y = some (.string s2)) :
    Ex Tryd.prog l w { dst := d, op := .binOp .neq 9 x y 9, type := ty, pos := pos, after := aft, guard := g } (.bool (s1.toList != s2.toList)) w := fun N a h => by
  simp only [execOp, h.ev hx, h.ev hy]
  have hu := Tryd.underlying9
  simp [go_sem, hu, bne]
end
theorem cellS {w : World} {A : Option Addr} {L : List ByteArray} (h : Kd.C Kd.string w A L.length L) {i : Nat} (hi : i < L.length) : ∃ ad, A = some ad ∧ w.cell? (ad.add i) = some (.string L[i]) := by
  obtain ⟨ad, c, e, _, hK, hc⟩ := Kd.C_get h ByteArray.empty (i : Int) (by omega) (by omega)
  have hK' : c = [.string (L.getD (i : Int).toNat ByteArray.empty)] := hK
  subst hK'
  have := hc 0 _ rfl
  rw [Int.toNat_natCast, Nat.add_zero, show Kd.string.sz = 1 from rfl, Nat.mul_one, List.getD_eq_getElem?_getD, List.getElem?_eq_getElem hi] at this
  exact ⟨ad, e, this⟩
/-- A text's pieces, each changed, with the byte between them. -/
def mapped (f : ByteArray → ByteArray) (s : ByteArray) : ByteArray := ⟨(Lib.join (((pieces 47 s).map f).map (·.data.toList)) [47]).toArray⟩
theorem pieces_len (c : UInt8) : ∀ (f : Nat) (s : ByteArray), s.size ≤ f → 1 ≤ (splitB c f s).length ∧ (splitB c f s).length ≤ s.size + 1 ∧ ∀ p ∈ splitB c f s, p.size ≤ s.size
  | 0, s, h => by
    rw [splitB]
    exact ⟨by simp, by simp, fun p hp => by rw [List.mem_singleton.1 hp]; exact Nat.le_refl _⟩
  | f + 1, s, h => by
    rw [splitB]
    split
    · rename_i hi
      have he : (s.extract (idxB c s.data.toList + 1) s.size).size ≤ s.size - 1 := by rw [ByteArray.size_extract]; omega
      obtain ⟨i1, i2, i3⟩ := pieces_len c f (s.extract (idxB c s.data.toList + 1) s.size) (by omega)
      refine ⟨by simp, by rw [List.length_cons]; omega, fun p hp => ?_⟩
      rcases List.mem_cons.1 hp with rfl | hp
      · rw [ByteArray.size_extract]; omega
      · exact Nat.le_trans (i3 p hp) (by omega)
    · exact ⟨by simp, by simp, fun p hp => by rw [List.mem_singleton.1 hp]; exact Nat.le_refl _⟩
theorem idx_here (c : UInt8) : ∀ (l : List UInt8), idxB c l < l.length → l = l.take (idxB c l) ++ c :: l.drop (idxB c l + 1)
  | [], h => by simp [idxB] at h
  | a :: l, h => by
    unfold idxB at h ⊢
    rw [List.takeWhile_cons] at h ⊢
    by_cases e : (a != c) = true
    · rw [if_pos e] at h ⊢
      have := idx_here c l (by unfold idxB; simpa using h)
      unfold idxB at this
      rw [List.length_cons, List.take_succ_cons, List.drop_succ_cons, List.cons_append, ← this]
    · rw [if_neg e]
      have : a = c := by simpa using e
      simp [this]
/-- The pieces with the byte between them are the text. -/
theorem join_pieces (c : UInt8) : ∀ (f : Nat) (s : ByteArray), s.size ≤ f → Lib.join ((splitB c f s).map (·.data.toList)) [c] = s.data.toList
  | 0, s, h => by rw [splitB]; exact Lib.join_one _ _
  | f + 1, s, h => by
    rw [splitB]
    split
    · rename_i hi
      have he : (s.extract (idxB c s.data.toList + 1) s.size).size ≤ s.size - 1 := by rw [ByteArray.size_extract]; omega
      have ih := join_pieces c f (s.extract (idxB c s.data.toList + 1) s.size) (by omega)
      obtain ⟨i1, _, _⟩ := pieces_len c f (s.extract (idxB c s.data.toList + 1) s.size) (by omega)
      rw [List.map_cons]
      cases hp : splitB c f (s.extract (idxB c s.data.toList + 1) s.size) with
      | nil => rw [hp] at i1; simp at i1
      | cons p ps =>
        rw [hp, List.map_cons] at ih
        rw [List.map_cons, Lib.join_cons]
        rw [Lib.join_cons] at ih
        have hh := idx_here c s.data.toList hi
        have t1 : (s.extract 0 (idxB c s.data.toList)).data.toList = s.data.toList.take (idxB c s.data.toList) := by rw [← Lib.toList_data, Lib.extract_toList]; simp
        have t2 : (s.extract (idxB c s.data.toList + 1) s.size).data.toList = s.data.toList.drop (idxB c s.data.toList + 1) := by
          rw [← Lib.toList_data, Lib.extract_toList, List.take_of_length_le (by rw [List.length_drop]; exact Nat.le_refl _)]
        refine Eq.trans ?_ hh.symm
        rw [t1]
        congr 1
        rw [← t2, ← ih]
        simp [Lib.joinTail]
    · exact Lib.join_one _ _
theorem mapped_id (f : ByteArray → ByteArray) (s : ByteArray) (h : ∀ p ∈ pieces 47 s, f p = p) : mapped f s = s := by
  unfold mapped
  rw [List.map_congr_left (g := id) (fun p hp => h p hp), List.map_id, show pieces 47 s = splitB 47 s.size s from rfl, join_pieces 47 s.size s (Nat.le_refl _)]
theorem set_get {cur : Array Value} {k j : Nat} {v : Value} (hk : k < cur.size) : (cur.setIfInBounds k v)[j]? = if k = j then some v else cur[j]? := by
  rw [Array.getElem?_setIfInBounds]
  by_cases e : k = j
  · subst e; simp [hk]
  · simp [e]
set_option maxRecDepth 100000 in
set_option maxHeartbeats 4000000 in
theorem to_path (m : Int) (s : ByteArray) (w0 : World) (hg : Glob w0) (hle : s.size ≤ 400000) (hjl : (mapped (toName m) s).size ≤ 100000000000) :
    Calls Tryd.prog 58 #[.iface 39 (.int .u64 m), .string s] w0 fun e w' => e = .returned (.string (if m = 33652738 then s else mapped (toName m) s)) ∧ Below w0.heap.size w0 w' := by
  refine calls_of_wp Tryd.func58 rfl ?_
  have h : Fm 46 [(0, .iface 39 (.int .u64 m)), (1, .string s)] ⟨#[Value.iface 39 (.int .u64 m), .string s] ++ Array.replicate (Tryd.f58.ntmps - (#[Value.iface 39 (.int .u64 m), .string s] : Array Value).size) undef, []⟩ := Fm.start _ _ _ (by kernel_rfl) lk2
  generalize (⟨#[Value.iface 39 (.int .u64 m), .string s] ++ Array.replicate (Tryd.f58.ntmps - (#[Value.iface 39 (.int .u64 m), .string s] : Array Value).size) undef, []⟩ : Act) = a at h
  refine wp_seq ?_
  refine wp_region_lit ?_
  refine Sym.step h rfl (by decide) (wanted_none rfl) (x_assign rfl) fun a h => ?_
  refine wpList_nil ?_
  show Code.wp _ _ _ _ _
  refine wp_seq ?_
  refine wp_seq ?_
  refine wp_region_lit ?_
  by_cases hm : (m == 33652738) = true
  case pos =>
    refine Sym.step h rfl (by decide) (wanted_none rfl) (x_move rfl) fun a h => ?_
    refine Sym.step h rfl (by decide) (wanted_none rfl) (x_mki rfl (run_mki _ _)) fun a h => ?_
    refine Sym.step h rfl (by decide) (wanted_none rfl) (Ex.to (x_eqi rfl rfl) (congrArg Value.bool hm)) fun a h => ?_
    refine wpList_nil ?_
    show Code.wp _ _ _ _ _
    refine wp_cond_true (h.slot 13 _ rfl) ?_
    refine wp_seq ?_
    refine wp_region_lit ?_
    refine Sym.step h rfl (by decide) (wanted_none rfl) (x_move rfl) fun a h => ?_
    refine Sym.step h rfl (by decide) (wanted_none rfl) (x_assign rfl) fun a h => ?_
    refine wpList_nil ?_
    show Code.wp _ _ _ _ _
    refine wp_ret ?_
    refine (show bodyPost Tryd.prog Tryd.f58 (fun e w' => e = .returned (.string (if m = 33652738 then s else mapped (toName m) s)) ∧ Below w0.heap.size w0 w') .ret _ _ from ret_slot h rfl (by decide) rfl ⟨?_, Below.refl _ _⟩)
    rw [if_pos (by simpa using hm)]
  case neg =>
    have hm' : ¬ m = 33652738 := by simpa using hm
    refine Sym.step h rfl (by decide) (wanted_none rfl) (x_move rfl) fun a h => ?_
    refine Sym.step h rfl (by decide) (wanted_none rfl) (x_mki rfl (run_mki _ _)) fun a h => ?_
    refine Sym.step h rfl (by decide) (wanted_none rfl) (Ex.to (x_eqi rfl rfl) (congrArg Value.bool (Bool.eq_false_iff.2 hm))) fun a h => ?_
    refine wpList_nil ?_
    show Code.wp _ _ _ _ _
    refine wp_cond_false (h.slot 13 _ rfl) (wp_skip ?_)
    show Code.wp _ _ _ _ _
    refine wp_seq ?_
    refine wp_region_lit ?_
    refine Sym.step h rfl (by decide) (wanted_none rfl) (x_move rfl) fun a h => ?_
    refine Sym.call h rfl (by decide) (wanted_none rfl) rfl enters70' (fun a h => map2 h rfl rfl) ?_
    refine (split_any 47 s w0 (by omega)).mono ?_
    rintro e w1 ⟨v, rfl, hr, hb1⟩
    refine ⟨_, rfl, fun a h => ?_⟩
    obtain ⟨A, c, rfl, hcap, hC⟩ := Kd.R_reads hr
    refine Sym.step h rfl (by decide) (wanted_none rfl) (x_assign rfl) fun a h => ?_
    refine wpList_nil ?_
    show Code.wp _ _ _ _ _
    obtain ⟨p1, p2, p3⟩ := pieces_len 47 s.size s (Nat.le_refl _)
    have hps : splitB 47 s.size s = pieces 47 s := rfl
    rw [hps] at p1 p2 p3
    have hid := mapped_id (toName m) s
    unfold mapped at hid hjl ⊢
    generalize pieces 47 s = L at hC hcap h p1 p2 p3 hid hjl
    clear hr hps
    obtain ⟨ie, hie, hiz, his, hib⟩ : ∃ ie, Tryd.prog.info? 9 = some ie ∧ ie.zero = some (.string ⟨#[]⟩) ∧ ie.size = 1 ∧ ie.bytes = 16 := by
      have hinf := infStr
      cases e : Tryd.prog.info? 9 with
      | none => rw [e] at hinf; cases hinf
      | some i =>
        rw [e] at hinf
        simp only [Option.map_some, Option.some.injEq, Prod.mk.injEq] at hinf
        exact ⟨i, rfl, hinf⟩
    have hmk := run_makeSlice w1 27 9 ie (.string ⟨#[]⟩) Tryd.underlying27 hie hiz .i64 .i64 (L.length : Int) (L.length : Int) (by omega) (by omega) (by rw [his, Int.toNat_natCast]; omega) (by rw [hib]; omega) (by omega)
    rw [Int.toNat_natCast, his, Nat.mul_one] at hmk
    refine wp_seq ?_
    refine wp_region_lit ?_
    refine Sym.step h rfl (by decide) (wanted_none rfl) (x_move rfl) fun a h => ?_
    refine Sym.step h rfl (by decide) (wanted_none rfl) (x_lenr Tryd.underlying27 rfl) fun a h => ?_
    refine Sym.step h rfl (by decide) (wanted_none rfl) (x_make rfl rfl hmk) fun a h => ?_
    refine Sym.step h rfl (by decide) (wanted_none rfl) (x_assign rfl) fun a h => ?_
    refine wpList_nil ?_
    show Code.wp _ _ _ _ _
    have hnew := heap_alloc_new w1 (.cells (madeCells (Value.string ⟨#[]⟩).cells L.length) 9)
    have hb2 : Below w1.heap.size w1 (w1.alloc (.cells (madeCells (Value.string ⟨#[]⟩).cells L.length) 9)) := (Below.refl _ w1).alloc (Nat.le_refl _) _
    have hcs : (madeCells (Value.string ⟨#[]⟩).cells L.length).size = L.length := by simp [madeCells]
    generalize madeCells (Value.string ⟨#[]⟩).cells L.length = cur0 at hnew hb2 hcs
    generalize w1.alloc (.cells cur0 9) = w2 at hnew hb2
    have hb02 := hb1.trans (hb2.mono hb1.size)
    obtain ⟨G, hG⟩ : ∃ G, w1.heap.size = G := ⟨_, rfl⟩
    rw [hG] at h hnew
    refine wp_seq ?_
    refine wp_region_lit ?_
    refine Sym.step h rfl (by decide) (wanted_none rfl) (x_assign rfl) fun a h => ?_
    refine wpList_nil ?_
    show Code.wp _ _ _ _ _
    refine wp_seq ?_
    refine wp_seq ?_
    refine wp_region_lit ?_
    refine Sym.step h rfl (by decide) (wanted_none rfl) (x_move rfl) fun a h => ?_
    refine Sym.step h rfl (by decide) (wanted_none rfl) (x_lenr Tryd.underlying27 rfl) fun a h => ?_
    refine Sym.step h rfl (by decide) (wanted_none rfl) (x_move rfl) fun a h => ?_
    refine wpList_nil ?_
    show Code.wp _ _ _ _ _
    refine wp_block ?_
    refine wp_loop_ghost (fun n a' W => ∃ (i : Nat) (ch : Bool) (cur : Array Value), i ≤ L.length ∧ n = L.length - i ∧ Fm 46 [(0, .iface 39 (.int .u64 m)), (1, .string s), (6, .slice (some ⟨G, 0, none⟩) L.length L.length), (7, .bool ch), (20, .slice A L.length c), (21, .int .i64 (L.length : Int)), (22, .int .i64 (i : Int))] a' ∧ W.heap[G]? = some (.cells cur 9 (0, 0)) ∧ cur.size = L.length ∧ Below w1.heap.size w1 W ∧ (∀ (j : Nat) (hj : j < i) (hl : j < L.length), cur[j]? = some (.string (toName m L[j])) ∧ (ch = false → toName m L[j] = L[j]))) L.length ⟨0, false, cur0, by omega, rfl, by exact h.pick [0, 1, 6, 7, 20, 21, 22] rfl, hnew, hcs, hb2, fun j hj => absurd hj (by omega)⟩ ?_
    clear hnew hcs h hmk hb2 hb02 cur0 w2
    rintro n a W ⟨i, ch, cur, hi, rfl, h, hnew, hcs, hBW, hall⟩
    have hB0 := hb1.trans (hBW.mono hb1.size)
    have hCW : Kd.C Kd.string W A L.length L := Kd.C_below hC hBW
    refine wp_seq ?_
    refine wp_region_lit ?_
    by_cases hlt : decide ((i : Int) < (L.length : Int)) = true
    case neg =>
      refine Sym.step h rfl (by decide) (wanted_none rfl) (Ex.to (x_lssi Tryd.underlying3 rfl rfl) (congrArg Value.bool (Bool.eq_false_iff.2 hlt))) fun a h => ?_
      refine wpList_nil ?_
      show Code.wp _ _ _ _ _
      refine wp_seq ?_
      refine wp_cond_false (h.slot 23 _ rfl) (wp_exit ?_)
      show Code.wp _ _ _ _ _
      have hi' : i = L.length := by
        rcases Nat.lt_or_ge i L.length with h' | h'
        · exact absurd (decide_eq_true (by omega)) hlt
        · omega
      subst hi'
      refine wp_seq ?_
      refine wp_seq ?_
      refine wp_region_lit ?_
      refine Sym.step h rfl (by decide) (wanted_none rfl) (x_move rfl) fun a h => ?_
      refine Sym.step h rfl (by decide) (wanted_none rfl) (x_not rfl) fun a h => ?_
      refine wpList_nil ?_
      show Code.wp _ _ _ _ _
      cases ch with
      | false =>
        refine wp_cond_true (h.slot 42 _ rfl) ?_
        refine wp_seq ?_
        refine wp_region_lit ?_
        refine Sym.step h rfl (by decide) (wanted_none rfl) (x_move rfl) fun a h => ?_
        refine Sym.step h rfl (by decide) (wanted_none rfl) (x_assign rfl) fun a h => ?_
        refine wpList_nil ?_
        show Code.wp _ _ _ _ _
        refine wp_ret ?_
        refine (show bodyPost Tryd.prog Tryd.f58 (fun e w' => e = .returned (.string (if m = 33652738 then s else ⟨(Lib.join ((L.map (toName m)).map (·.data.toList)) [47]).toArray⟩)) ∧ Below w0.heap.size w0 w') .ret _ _ from ret_slot h rfl (by decide) rfl ⟨?_, hB0⟩)
        rw [if_neg hm', hid fun p hp => ?_]
        obtain ⟨j, hj, rfl⟩ := List.mem_iff_getElem.1 hp
        exact (hall j hj hj).2 rfl
      | true =>
        refine wp_cond_false (h.slot 42 _ rfl) (wp_skip ?_)
        show Code.wp _ _ _ _ _
        refine wp_seq ?_
        refine wp_region_lit ?_
        refine Sym.step h rfl (by decide) (wanted_none rfl) (x_move rfl) fun a h => ?_
        refine Sym.call h rfl (by decide) (wanted_none rfl) rfl enters71 (fun a h => map2 h rfl rfl) ?_
        have hml : (L.map (toName m)).length = L.length := List.length_map _
        have hj := Shelg.Tryd.strings_Join G 0 L.length (L.map (toName m)) ⟨#[47]⟩ W (fun j x hx => ?_) (Array.getElem?_eq_some_iff.1 hnew).1 (by omega) (by omega) (Nat.le_trans (show _ ≤ 100000000000 from hjl) (by decide))
        rw [hml] at hj
        refine hj.mono ?_
        rintro e W2 ⟨rfl, hb3⟩
        refine ⟨_, rfl, fun a h => ?_⟩
        refine Sym.step h rfl (by decide) (wanted_none rfl) (x_assign rfl) fun a h => ?_
        refine wpList_nil ?_
        show Code.wp _ _ _ _ _
        refine wp_ret ?_
        refine (show bodyPost Tryd.prog Tryd.f58 (fun e w' => e = .returned (.string (if m = 33652738 then s else ⟨(Lib.join ((L.map (toName m)).map (·.data.toList)) [47]).toArray⟩)) ∧ Below w0.heap.size w0 w') .ret _ _ from ret_slot h rfl (by decide) rfl ⟨?_, hB0.trans (hb3.mono hB0.size)⟩)
        · rw [if_neg hm']
        · rw [List.getElem?_map] at hx
          have hjl : j < L.length := by
            rcases Nat.lt_or_ge j L.length with h' | h'
            · exact h'
            · rw [List.getElem?_eq_none h'] at hx; cases hx
          rw [List.getElem?_eq_getElem hjl] at hx
          injection hx with hx
          rw [← hx, Nat.zero_add]
          have := cell_at hnew (hall j hjl hjl).1
          have e : (⟨G, 0, none⟩ : Addr).add j = ⟨G, j, none⟩ := by unfold Addr.add; split <;> simp_all
          rwa [e] at this
    case pos =>
      have hil : i < L.length := by have := of_decide_eq_true hlt; omega
      obtain ⟨ad, hA, c0⟩ := cellS hCW hil
      subst hA
      have hpsz : (L[i]).size ≤ 400000 := Nat.le_trans (p3 _ (List.getElem_mem hil)) hle
      obtain ⟨P, hP⟩ : ∃ P, L[i] = P := ⟨_, rfl⟩
      rw [hP] at c0 hpsz
      refine Sym.step h rfl (by decide) (wanted_none rfl) (Ex.to (x_lssi Tryd.underlying3 rfl rfl) (congrArg Value.bool hlt)) fun a h => ?_
      refine wpList_nil ?_
      show Code.wp _ _ _ _ _
      refine wp_seq ?_
      refine wp_cond_true (h.slot 23 _ rfl) (wp_skip ?_)
      show Code.wp _ _ _ _ _
      refine wp_seq ?_
      refine wp_block ?_
      refine wp_seq ?_
      refine wp_region_lit ?_
      refine Sym.step h rfl (by decide) (wanted_none rfl) (x_move rfl) fun a h => ?_
      refine Sym.step h rfl (by decide) (wanted_none rfl) (x_elS rfl rfl hil) fun a h => ?_
      refine Sym.step h rfl (by decide) (wanted_none rfl) (x_loads Tryd.underlying9 rfl c0) fun a h => ?_
      refine Sym.step h rfl (by decide) (wanted_none rfl) (x_assign rfl) fun a h => ?_
      refine Sym.step h rfl (by decide) (wanted_none rfl) (x_assign rfl) fun a h => ?_
      refine wpList_nil ?_
      show Code.wp _ _ _ _ _
      refine wp_seq ?_
      refine wp_region_lit ?_
      refine Sym.step h rfl (by decide) (wanted_none rfl) (x_move rfl) fun a h => ?_
      refine Sym.step h rfl (by decide) (wanted_none rfl) (x_move rfl) fun a h => ?_
      refine Sym.call h rfl (by decide) (wanted_none rfl) rfl enters53 (fun a h => map2 h rfl rfl) ?_
      refine (toName_any m P W (Glob.below hg hB0) hpsz).mono ?_
      rintro e W2 ⟨rfl, hb3⟩
      refine ⟨_, rfl, fun a h => ?_⟩
      refine Sym.step h rfl (by decide) (wanted_none rfl) (x_assign rfl) fun a h => ?_
      refine wpList_nil ?_
      show Code.wp _ _ _ _ _
      have hnew2 := oldB hb3 hnew
      have hBW2 := hBW.trans (hb3.mono hBW.size)
      clear hnew hBW hB0 hCW c0
      clear hb3
      refine Code.wp_mono (Q := fun e a' W' => e = .normal ∧ ∃ ch', (ch' = false → ch = false ∧ toName m P = P) ∧ Fm 46 [(0, .iface 39 (.int .u64 m)), (1, .string s), (6, .slice (some ⟨G, 0, none⟩) L.length L.length), (7, .bool ch'), (20, .slice (some ad) L.length c), (21, .int .i64 (L.length : Int)), (22, .int .i64 (i : Int))] a' ∧ W'.heap[G]? = some (.cells (cur.setIfInBounds i (.string (toName m P))) 9 (0, 0)) ∧ Below w1.heap.size w1 W') ?_ ?_
      · rintro e a' W' ⟨rfl, ch', hch, h, hn, hB⟩
        show Code.wp _ _ _ a' W'
        have hadd : IntKind.i64.wrap ((i : Int) + 1) = ((i + 1 : Nat) : Int) := by rw [IntKind.wrap_i64]; omega
        refine wp_region_lit ?_
        refine Sym.step h rfl (by decide) (wanted_none rfl) (x_addi Tryd.underlying3 rfl rfl hadd) fun a h => ?_
        refine Sym.step h rfl (by decide) (wanted_none rfl) (x_move rfl) fun a h => ?_
        refine wpList_nil ?_
        refine ⟨L.length - (i + 1), by omega, i + 1, ch', _, hil, rfl, h.pick [0, 1, 6, 7, 20, 21, 22] rfl, hn, by rw [Array.size_setIfInBounds]; exact hcs, hB, fun j hj hl => ?_⟩
        rw [set_get (by omega)]
        rcases Nat.lt_or_ge j i with h' | h'
        · rw [if_neg (by omega)]
          exact ⟨(hall j h' hl).1, fun hc => (hall j h' hl).2 (hch hc).1⟩
        · have : j = i := by omega
          subst this
          rw [if_pos rfl, hP]
          exact ⟨rfl, fun hc => (hch hc).2⟩
      · have r11 : ∀ (ch' : Bool) (hch : ch' = false → ch = false ∧ toName m P = P) a', Fm 46 [(0, .iface 39 (.int .u64 m)), (1, .string s), (6, .slice (some ⟨G, 0, none⟩) L.length L.length), (7, .bool ch'), (8, .int .i64 (i : Int)), (10, .string (toName m P)), (20, .slice (some ad) L.length c), (21, .int .i64 (L.length : Int)), (22, .int .i64 (i : Int))] a' →
            (piece [1, 1, 1, 1, 1, 0, 1, 0, 0, 1, 1, 0, 0, 1, 1, 1] (Tryd.f58.body.getD .skip)).wp Tryd.prog (fun e a' W' => e = .normal ∧ ∃ ch', (ch' = false → ch = false ∧ toName m P = P) ∧ Fm 46 [(0, .iface 39 (.int .u64 m)), (1, .string s), (6, .slice (some ⟨G, 0, none⟩) L.length L.length), (7, .bool ch'), (20, .slice (some ad) L.length c), (21, .int .i64 (L.length : Int)), (22, .int .i64 (i : Int))] a' ∧ W'.heap[G]? = some (.cells (cur.setIfInBounds i (.string (toName m P))) 9 (0, 0)) ∧ Below w1.heap.size w1 W') a' W2 := by
          intro ch' hch a' h
          conv => arg 2; whnf
          refine wp_region_lit ?_
          refine Sym.step h rfl (by decide) (wanted_none rfl) (x_move rfl) fun a h => ?_
          refine Sym.step h rfl (by decide) (wanted_none rfl) (x_move rfl) fun a h => ?_
          refine Sym.step h rfl (by decide) (wanted_none rfl) (x_move rfl) fun a h => ?_
          refine Sym.step h rfl (by decide) (wanted_none rfl) (x_elS rfl rfl hil) fun a h => ?_
          refine Sym.effect h rfl rfl (run_storeS h rfl rfl hnew2 (by omega)) ?_
          refine wpList_nil ?_
          refine ⟨rfl, ch', hch, h.pick [0, 1, 6, 7, 20, 21, 22] rfl, setRow_heap W2 G cur _ 9 _ hnew2, hBW2.trans ⟨rfl, rfl, rfl, by simp, fun k hk => setRow_other _ _ k _ (by omega)⟩⟩
        refine wp_seq ?_
        refine wp_region_lit ?_
        cases ch with
        | true =>
          refine Sym.step h rfl (by decide) (wanted_none rfl) (x_move rfl) fun a h => ?_
          refine Sym.step h rfl (by decide) (wanted_none rfl) (x_move rfl) fun a h => ?_
          refine Sym.off h rfl (by decide) (woff h rfl rfl rfl (by decide)) fun a h => ?_
          refine Sym.off h rfl (by decide) (woff h rfl rfl rfl (by decide)) fun a h => ?_
          refine Sym.off h rfl (by decide) (woff h rfl rfl rfl (by decide)) fun a h => ?_
          refine Sym.step h rfl (by decide) (wanted_none rfl) (x_pick_t rfl rfl rfl) fun a h => ?_
          refine Sym.step h rfl (by decide) (wanted_none rfl) (x_assign rfl) fun a h => ?_
          refine wpList_nil ?_
          show Code.wp _ _ _ _ _
          exact r11 true (fun h => by cases h) _ (h.pick [0, 1, 6, 7, 8, 10, 20, 21, 22] rfl)
        | false =>
          by_cases hne : ((toName m P).toList != P.toList) = true
          case pos =>
            refine Sym.step h rfl (by decide) (wanted_none rfl) (x_move rfl) fun a h => ?_
            refine Sym.step h rfl (by decide) (wanted_none rfl) (x_move rfl) fun a h => ?_
            refine Sym.step h rfl (by decide) (won h rfl rfl rfl (by decide)) (x_move rfl) fun a h => ?_
            refine Sym.step h rfl (by decide) (won h rfl rfl rfl (by decide)) (x_move rfl) fun a h => ?_
            refine Sym.step h rfl (by decide) (won h rfl rfl rfl (by decide)) (Ex.to (x_neqs rfl rfl) (congrArg Value.bool hne)) fun a h => ?_
            refine Sym.step h rfl (by decide) (wanted_none rfl) (x_pick_f rfl rfl rfl) fun a h => ?_
            refine Sym.step h rfl (by decide) (wanted_none rfl) (x_assign rfl) fun a h => ?_
            refine wpList_nil ?_
            show Code.wp _ _ _ _ _
            exact r11 true (fun h => by cases h) _ (h.pick [0, 1, 6, 7, 8, 10, 20, 21, 22] rfl)
          case neg =>
            refine Sym.step h rfl (by decide) (wanted_none rfl) (x_move rfl) fun a h => ?_
            refine Sym.step h rfl (by decide) (wanted_none rfl) (x_move rfl) fun a h => ?_
            refine Sym.step h rfl (by decide) (won h rfl rfl rfl (by decide)) (x_move rfl) fun a h => ?_
            refine Sym.step h rfl (by decide) (won h rfl rfl rfl (by decide)) (x_move rfl) fun a h => ?_
            refine Sym.step h rfl (by decide) (won h rfl rfl rfl (by decide)) (Ex.to (x_neqs rfl rfl) (congrArg Value.bool (Bool.eq_false_iff.2 hne))) fun a h => ?_
            refine Sym.step h rfl (by decide) (wanted_none rfl) (x_pick_f rfl rfl rfl) fun a h => ?_
            refine Sym.step h rfl (by decide) (wanted_none rfl) (x_assign rfl) fun a h => ?_
            refine wpList_nil ?_
            show Code.wp _ _ _ _ _
            refine r11 false (fun _ => ⟨rfl, ?_⟩) _ (h.pick [0, 1, 6, 7, 8, 10, 20, 21, 22] rfl)
            have he : (toName m P).toList = P.toList := by simpa using hne
            rw [Lib.toList_data, Lib.toList_data] at he
            exact Sdl.ba he
set_option maxRecDepth 100000 in
set_option maxHeartbeats 4000000 in
theorem from_path (m : Int) (s : ByteArray) (w0 : World) (hg : Glob w0) (hle : s.size ≤ 400000) (hjl : (mapped (fromName m) s).size ≤ 100000000000) :
    Calls Tryd.prog 59 #[.iface 39 (.int .u64 m), .string s] w0 fun e w' => e = .returned (.string (if m = 33652738 then s else mapped (fromName m) s)) ∧ Below w0.heap.size w0 w' := by
  refine calls_of_wp Tryd.func59 rfl ?_
  have h : Fm 46 [(0, .iface 39 (.int .u64 m)), (1, .string s)] ⟨#[Value.iface 39 (.int .u64 m), .string s] ++ Array.replicate (Tryd.f59.ntmps - (#[Value.iface 39 (.int .u64 m), .string s] : Array Value).size) undef, []⟩ := Fm.start _ _ _ (by kernel_rfl) lk2
  generalize (⟨#[Value.iface 39 (.int .u64 m), .string s] ++ Array.replicate (Tryd.f59.ntmps - (#[Value.iface 39 (.int .u64 m), .string s] : Array Value).size) undef, []⟩ : Act) = a at h
  refine wp_seq ?_
  refine wp_region_lit ?_
  refine Sym.step h rfl (by decide) (wanted_none rfl) (x_assign rfl) fun a h => ?_
  refine wpList_nil ?_
  show Code.wp _ _ _ _ _
  refine wp_seq ?_
  refine wp_seq ?_
  refine wp_region_lit ?_
  by_cases hm : (m == 33652738) = true
  case pos =>
    refine Sym.step h rfl (by decide) (wanted_none rfl) (x_move rfl) fun a h => ?_
    refine Sym.step h rfl (by decide) (wanted_none rfl) (x_mki rfl (run_mki _ _)) fun a h => ?_
    refine Sym.step h rfl (by decide) (wanted_none rfl) (Ex.to (x_eqi rfl rfl) (congrArg Value.bool hm)) fun a h => ?_
    refine wpList_nil ?_
    show Code.wp _ _ _ _ _
    refine wp_cond_true (h.slot 13 _ rfl) ?_
    refine wp_seq ?_
    refine wp_region_lit ?_
    refine Sym.step h rfl (by decide) (wanted_none rfl) (x_move rfl) fun a h => ?_
    refine Sym.step h rfl (by decide) (wanted_none rfl) (x_assign rfl) fun a h => ?_
    refine wpList_nil ?_
    show Code.wp _ _ _ _ _
    refine wp_ret ?_
    refine (show bodyPost Tryd.prog Tryd.f59 (fun e w' => e = .returned (.string (if m = 33652738 then s else mapped (fromName m) s)) ∧ Below w0.heap.size w0 w') .ret _ _ from ret_slot h rfl (by decide) rfl ⟨?_, Below.refl _ _⟩)
    rw [if_pos (by simpa using hm)]
  case neg =>
    have hm' : ¬ m = 33652738 := by simpa using hm
    refine Sym.step h rfl (by decide) (wanted_none rfl) (x_move rfl) fun a h => ?_
    refine Sym.step h rfl (by decide) (wanted_none rfl) (x_mki rfl (run_mki _ _)) fun a h => ?_
    refine Sym.step h rfl (by decide) (wanted_none rfl) (Ex.to (x_eqi rfl rfl) (congrArg Value.bool (Bool.eq_false_iff.2 hm))) fun a h => ?_
    refine wpList_nil ?_
    show Code.wp _ _ _ _ _
    refine wp_cond_false (h.slot 13 _ rfl) (wp_skip ?_)
    show Code.wp _ _ _ _ _
    refine wp_seq ?_
    refine wp_region_lit ?_
    refine Sym.step h rfl (by decide) (wanted_none rfl) (x_move rfl) fun a h => ?_
    refine Sym.call h rfl (by decide) (wanted_none rfl) rfl enters70' (fun a h => map2 h rfl rfl) ?_
    refine (split_any 47 s w0 (by omega)).mono ?_
    rintro e w1 ⟨v, rfl, hr, hb1⟩
    refine ⟨_, rfl, fun a h => ?_⟩
    obtain ⟨A, c, rfl, hcap, hC⟩ := Kd.R_reads hr
    refine Sym.step h rfl (by decide) (wanted_none rfl) (x_assign rfl) fun a h => ?_
    refine wpList_nil ?_
    show Code.wp _ _ _ _ _
    obtain ⟨p1, p2, p3⟩ := pieces_len 47 s.size s (Nat.le_refl _)
    have hps : splitB 47 s.size s = pieces 47 s := rfl
    rw [hps] at p1 p2 p3
    have hid := mapped_id (fromName m) s
    unfold mapped at hid hjl ⊢
    generalize pieces 47 s = L at hC hcap h p1 p2 p3 hid hjl
    clear hr hps
    obtain ⟨ie, hie, hiz, his, hib⟩ : ∃ ie, Tryd.prog.info? 9 = some ie ∧ ie.zero = some (.string ⟨#[]⟩) ∧ ie.size = 1 ∧ ie.bytes = 16 := by
      have hinf := infStr
      cases e : Tryd.prog.info? 9 with
      | none => rw [e] at hinf; cases hinf
      | some i =>
        rw [e] at hinf
        simp only [Option.map_some, Option.some.injEq, Prod.mk.injEq] at hinf
        exact ⟨i, rfl, hinf⟩
    have hmk := run_makeSlice w1 27 9 ie (.string ⟨#[]⟩) Tryd.underlying27 hie hiz .i64 .i64 (L.length : Int) (L.length : Int) (by omega) (by omega) (by rw [his, Int.toNat_natCast]; omega) (by rw [hib]; omega) (by omega)
    rw [Int.toNat_natCast, his, Nat.mul_one] at hmk
    refine wp_seq ?_
    refine wp_region_lit ?_
    refine Sym.step h rfl (by decide) (wanted_none rfl) (x_move rfl) fun a h => ?_
    refine Sym.step h rfl (by decide) (wanted_none rfl) (x_lenr Tryd.underlying27 rfl) fun a h => ?_
    refine Sym.step h rfl (by decide) (wanted_none rfl) (x_make rfl rfl hmk) fun a h => ?_
    refine Sym.step h rfl (by decide) (wanted_none rfl) (x_assign rfl) fun a h => ?_
    refine wpList_nil ?_
    show Code.wp _ _ _ _ _
    have hnew := heap_alloc_new w1 (.cells (madeCells (Value.string ⟨#[]⟩).cells L.length) 9)
    have hb2 : Below w1.heap.size w1 (w1.alloc (.cells (madeCells (Value.string ⟨#[]⟩).cells L.length) 9)) := (Below.refl _ w1).alloc (Nat.le_refl _) _
    have hcs : (madeCells (Value.string ⟨#[]⟩).cells L.length).size = L.length := by simp [madeCells]
    generalize madeCells (Value.string ⟨#[]⟩).cells L.length = cur0 at hnew hb2 hcs
    generalize w1.alloc (.cells cur0 9) = w2 at hnew hb2
    have hb02 := hb1.trans (hb2.mono hb1.size)
    obtain ⟨G, hG⟩ : ∃ G, w1.heap.size = G := ⟨_, rfl⟩
    rw [hG] at h hnew
    refine wp_seq ?_
    refine wp_region_lit ?_
    refine Sym.step h rfl (by decide) (wanted_none rfl) (x_assign rfl) fun a h => ?_
    refine wpList_nil ?_
    show Code.wp _ _ _ _ _
    refine wp_seq ?_
    refine wp_seq ?_
    refine wp_region_lit ?_
    refine Sym.step h rfl (by decide) (wanted_none rfl) (x_move rfl) fun a h => ?_
    refine Sym.step h rfl (by decide) (wanted_none rfl) (x_lenr Tryd.underlying27 rfl) fun a h => ?_
    refine Sym.step h rfl (by decide) (wanted_none rfl) (x_move rfl) fun a h => ?_
    refine wpList_nil ?_
    show Code.wp _ _ _ _ _
    refine wp_block ?_
    refine wp_loop_ghost (fun n a' W => ∃ (i : Nat) (ch : Bool) (cur : Array Value), i ≤ L.length ∧ n = L.length - i ∧ Fm 46 [(0, .iface 39 (.int .u64 m)), (1, .string s), (6, .slice (some ⟨G, 0, none⟩) L.length L.length), (7, .bool ch), (20, .slice A L.length c), (21, .int .i64 (L.length : Int)), (22, .int .i64 (i : Int))] a' ∧ W.heap[G]? = some (.cells cur 9 (0, 0)) ∧ cur.size = L.length ∧ Below w1.heap.size w1 W ∧ (∀ (j : Nat) (hj : j < i) (hl : j < L.length), cur[j]? = some (.string (fromName m L[j])) ∧ (ch = false → fromName m L[j] = L[j]))) L.length ⟨0, false, cur0, by omega, rfl, by exact h.pick [0, 1, 6, 7, 20, 21, 22] rfl, hnew, hcs, hb2, fun j hj => absurd hj (by omega)⟩ ?_
    clear hnew hcs h hmk hb2 hb02 cur0 w2
    rintro n a W ⟨i, ch, cur, hi, rfl, h, hnew, hcs, hBW, hall⟩
    have hB0 := hb1.trans (hBW.mono hb1.size)
    have hCW : Kd.C Kd.string W A L.length L := Kd.C_below hC hBW
    refine wp_seq ?_
    refine wp_region_lit ?_
    by_cases hlt : decide ((i : Int) < (L.length : Int)) = true
    case neg =>
      refine Sym.step h rfl (by decide) (wanted_none rfl) (Ex.to (x_lssi Tryd.underlying3 rfl rfl) (congrArg Value.bool (Bool.eq_false_iff.2 hlt))) fun a h => ?_
      refine wpList_nil ?_
      show Code.wp _ _ _ _ _
      refine wp_seq ?_
      refine wp_cond_false (h.slot 23 _ rfl) (wp_exit ?_)
      show Code.wp _ _ _ _ _
      have hi' : i = L.length := by
        rcases Nat.lt_or_ge i L.length with h' | h'
        · exact absurd (decide_eq_true (by omega)) hlt
        · omega
      subst hi'
      refine wp_seq ?_
      refine wp_seq ?_
      refine wp_region_lit ?_
      refine Sym.step h rfl (by decide) (wanted_none rfl) (x_move rfl) fun a h => ?_
      refine Sym.step h rfl (by decide) (wanted_none rfl) (x_not rfl) fun a h => ?_
      refine wpList_nil ?_
      show Code.wp _ _ _ _ _
      cases ch with
      | false =>
        refine wp_cond_true (h.slot 42 _ rfl) ?_
        refine wp_seq ?_
        refine wp_region_lit ?_
        refine Sym.step h rfl (by decide) (wanted_none rfl) (x_move rfl) fun a h => ?_
        refine Sym.step h rfl (by decide) (wanted_none rfl) (x_assign rfl) fun a h => ?_
        refine wpList_nil ?_
        show Code.wp _ _ _ _ _
        refine wp_ret ?_
        refine (show bodyPost Tryd.prog Tryd.f59 (fun e w' => e = .returned (.string (if m = 33652738 then s else ⟨(Lib.join ((L.map (fromName m)).map (·.data.toList)) [47]).toArray⟩)) ∧ Below w0.heap.size w0 w') .ret _ _ from ret_slot h rfl (by decide) rfl ⟨?_, hB0⟩)
        rw [if_neg hm', hid fun p hp => ?_]
        obtain ⟨j, hj, rfl⟩ := List.mem_iff_getElem.1 hp
        exact (hall j hj hj).2 rfl
      | true =>
        refine wp_cond_false (h.slot 42 _ rfl) (wp_skip ?_)
        show Code.wp _ _ _ _ _
        refine wp_seq ?_
        refine wp_region_lit ?_
        refine Sym.step h rfl (by decide) (wanted_none rfl) (x_move rfl) fun a h => ?_
        refine Sym.call h rfl (by decide) (wanted_none rfl) rfl enters71 (fun a h => map2 h rfl rfl) ?_
        have hml : (L.map (fromName m)).length = L.length := List.length_map _
        have hj := Shelg.Tryd.strings_Join G 0 L.length (L.map (fromName m)) ⟨#[47]⟩ W (fun j x hx => ?_) (Array.getElem?_eq_some_iff.1 hnew).1 (by omega) (by omega) (Nat.le_trans (show _ ≤ 100000000000 from hjl) (by decide))
        rw [hml] at hj
        refine hj.mono ?_
        rintro e W2 ⟨rfl, hb3⟩
        refine ⟨_, rfl, fun a h => ?_⟩
        refine Sym.step h rfl (by decide) (wanted_none rfl) (x_assign rfl) fun a h => ?_
        refine wpList_nil ?_
        show Code.wp _ _ _ _ _
        refine wp_ret ?_
        refine (show bodyPost Tryd.prog Tryd.f59 (fun e w' => e = .returned (.string (if m = 33652738 then s else ⟨(Lib.join ((L.map (fromName m)).map (·.data.toList)) [47]).toArray⟩)) ∧ Below w0.heap.size w0 w') .ret _ _ from ret_slot h rfl (by decide) rfl ⟨?_, hB0.trans (hb3.mono hB0.size)⟩)
        · rw [if_neg hm']
        · rw [List.getElem?_map] at hx
          have hjl : j < L.length := by
            rcases Nat.lt_or_ge j L.length with h' | h'
            · exact h'
            · rw [List.getElem?_eq_none h'] at hx; cases hx
          rw [List.getElem?_eq_getElem hjl] at hx
          injection hx with hx
          rw [← hx, Nat.zero_add]
          have := cell_at hnew (hall j hjl hjl).1
          have e : (⟨G, 0, none⟩ : Addr).add j = ⟨G, j, none⟩ := by unfold Addr.add; split <;> simp_all
          rwa [e] at this
    case pos =>
      have hil : i < L.length := by have := of_decide_eq_true hlt; omega
      obtain ⟨ad, hA, c0⟩ := cellS hCW hil
      subst hA
      have hpsz : (L[i]).size ≤ 400000 := Nat.le_trans (p3 _ (List.getElem_mem hil)) hle
      obtain ⟨P, hP⟩ : ∃ P, L[i] = P := ⟨_, rfl⟩
      rw [hP] at c0 hpsz
      refine Sym.step h rfl (by decide) (wanted_none rfl) (Ex.to (x_lssi Tryd.underlying3 rfl rfl) (congrArg Value.bool hlt)) fun a h => ?_
      refine wpList_nil ?_
      show Code.wp _ _ _ _ _
      refine wp_seq ?_
      refine wp_cond_true (h.slot 23 _ rfl) (wp_skip ?_)
      show Code.wp _ _ _ _ _
      refine wp_seq ?_
      refine wp_block ?_
      refine wp_seq ?_
      refine wp_region_lit ?_
      refine Sym.step h rfl (by decide) (wanted_none rfl) (x_move rfl) fun a h => ?_
      refine Sym.step h rfl (by decide) (wanted_none rfl) (x_elS rfl rfl hil) fun a h => ?_
      refine Sym.step h rfl (by decide) (wanted_none rfl) (x_loads Tryd.underlying9 rfl c0) fun a h => ?_
      refine Sym.step h rfl (by decide) (wanted_none rfl) (x_assign rfl) fun a h => ?_
      refine Sym.step h rfl (by decide) (wanted_none rfl) (x_assign rfl) fun a h => ?_
      refine wpList_nil ?_
      show Code.wp _ _ _ _ _
      refine wp_seq ?_
      refine wp_region_lit ?_
      refine Sym.step h rfl (by decide) (wanted_none rfl) (x_move rfl) fun a h => ?_
      refine Sym.step h rfl (by decide) (wanted_none rfl) (x_move rfl) fun a h => ?_
      refine Sym.call h rfl (by decide) (wanted_none rfl) rfl enters72 (fun a h => map2 h rfl rfl) ?_
      refine (fromName_any m P W (Glob.below hg hB0) hpsz).mono ?_
      rintro e W2 ⟨rfl, hb3⟩
      refine ⟨_, rfl, fun a h => ?_⟩
      refine Sym.step h rfl (by decide) (wanted_none rfl) (x_assign rfl) fun a h => ?_
      refine wpList_nil ?_
      show Code.wp _ _ _ _ _
      have hnew2 := oldB hb3 hnew
      have hBW2 := hBW.trans (hb3.mono hBW.size)
      clear hnew hBW hB0 hCW c0
      clear hb3
      refine Code.wp_mono (Q := fun e a' W' => e = .normal ∧ ∃ ch', (ch' = false → ch = false ∧ fromName m P = P) ∧ Fm 46 [(0, .iface 39 (.int .u64 m)), (1, .string s), (6, .slice (some ⟨G, 0, none⟩) L.length L.length), (7, .bool ch'), (20, .slice (some ad) L.length c), (21, .int .i64 (L.length : Int)), (22, .int .i64 (i : Int))] a' ∧ W'.heap[G]? = some (.cells (cur.setIfInBounds i (.string (fromName m P))) 9 (0, 0)) ∧ Below w1.heap.size w1 W') ?_ ?_
      · rintro e a' W' ⟨rfl, ch', hch, h, hn, hB⟩
        show Code.wp _ _ _ a' W'
        have hadd : IntKind.i64.wrap ((i : Int) + 1) = ((i + 1 : Nat) : Int) := by rw [IntKind.wrap_i64]; omega
        refine wp_region_lit ?_
        refine Sym.step h rfl (by decide) (wanted_none rfl) (x_addi Tryd.underlying3 rfl rfl hadd) fun a h => ?_
        refine Sym.step h rfl (by decide) (wanted_none rfl) (x_move rfl) fun a h => ?_
        refine wpList_nil ?_
        refine ⟨L.length - (i + 1), by omega, i + 1, ch', _, hil, rfl, h.pick [0, 1, 6, 7, 20, 21, 22] rfl, hn, by rw [Array.size_setIfInBounds]; exact hcs, hB, fun j hj hl => ?_⟩
        rw [set_get (by omega)]
        rcases Nat.lt_or_ge j i with h' | h'
        · rw [if_neg (by omega)]
          exact ⟨(hall j h' hl).1, fun hc => (hall j h' hl).2 (hch hc).1⟩
        · have : j = i := by omega
          subst this
          rw [if_pos rfl, hP]
          exact ⟨rfl, fun hc => (hch hc).2⟩
      · have r11 : ∀ (ch' : Bool) (hch : ch' = false → ch = false ∧ fromName m P = P) a', Fm 46 [(0, .iface 39 (.int .u64 m)), (1, .string s), (6, .slice (some ⟨G, 0, none⟩) L.length L.length), (7, .bool ch'), (8, .int .i64 (i : Int)), (10, .string (fromName m P)), (20, .slice (some ad) L.length c), (21, .int .i64 (L.length : Int)), (22, .int .i64 (i : Int))] a' →
            (piece [1, 1, 1, 1, 1, 0, 1, 0, 0, 1, 1, 0, 0, 1, 1, 1] (Tryd.f59.body.getD .skip)).wp Tryd.prog (fun e a' W' => e = .normal ∧ ∃ ch', (ch' = false → ch = false ∧ fromName m P = P) ∧ Fm 46 [(0, .iface 39 (.int .u64 m)), (1, .string s), (6, .slice (some ⟨G, 0, none⟩) L.length L.length), (7, .bool ch'), (20, .slice (some ad) L.length c), (21, .int .i64 (L.length : Int)), (22, .int .i64 (i : Int))] a' ∧ W'.heap[G]? = some (.cells (cur.setIfInBounds i (.string (fromName m P))) 9 (0, 0)) ∧ Below w1.heap.size w1 W') a' W2 := by
          intro ch' hch a' h
          conv => arg 2; whnf
          refine wp_region_lit ?_
          refine Sym.step h rfl (by decide) (wanted_none rfl) (x_move rfl) fun a h => ?_
          refine Sym.step h rfl (by decide) (wanted_none rfl) (x_move rfl) fun a h => ?_
          refine Sym.step h rfl (by decide) (wanted_none rfl) (x_move rfl) fun a h => ?_
          refine Sym.step h rfl (by decide) (wanted_none rfl) (x_elS rfl rfl hil) fun a h => ?_
          refine Sym.effect h rfl rfl (run_storeS h rfl rfl hnew2 (by omega)) ?_
          refine wpList_nil ?_
          refine ⟨rfl, ch', hch, h.pick [0, 1, 6, 7, 20, 21, 22] rfl, setRow_heap W2 G cur _ 9 _ hnew2, hBW2.trans ⟨rfl, rfl, rfl, by simp, fun k hk => setRow_other _ _ k _ (by omega)⟩⟩
        refine wp_seq ?_
        refine wp_region_lit ?_
        cases ch with
        | true =>
          refine Sym.step h rfl (by decide) (wanted_none rfl) (x_move rfl) fun a h => ?_
          refine Sym.step h rfl (by decide) (wanted_none rfl) (x_move rfl) fun a h => ?_
          refine Sym.off h rfl (by decide) (woff h rfl rfl rfl (by decide)) fun a h => ?_
          refine Sym.off h rfl (by decide) (woff h rfl rfl rfl (by decide)) fun a h => ?_
          refine Sym.off h rfl (by decide) (woff h rfl rfl rfl (by decide)) fun a h => ?_
          refine Sym.step h rfl (by decide) (wanted_none rfl) (x_pick_t rfl rfl rfl) fun a h => ?_
          refine Sym.step h rfl (by decide) (wanted_none rfl) (x_assign rfl) fun a h => ?_
          refine wpList_nil ?_
          show Code.wp _ _ _ _ _
          exact r11 true (fun h => by cases h) _ (h.pick [0, 1, 6, 7, 8, 10, 20, 21, 22] rfl)
        | false =>
          by_cases hne : ((fromName m P).toList != P.toList) = true
          case pos =>
            refine Sym.step h rfl (by decide) (wanted_none rfl) (x_move rfl) fun a h => ?_
            refine Sym.step h rfl (by decide) (wanted_none rfl) (x_move rfl) fun a h => ?_
            refine Sym.step h rfl (by decide) (won h rfl rfl rfl (by decide)) (x_move rfl) fun a h => ?_
            refine Sym.step h rfl (by decide) (won h rfl rfl rfl (by decide)) (x_move rfl) fun a h => ?_
            refine Sym.step h rfl (by decide) (won h rfl rfl rfl (by decide)) (Ex.to (x_neqs rfl rfl) (congrArg Value.bool hne)) fun a h => ?_
            refine Sym.step h rfl (by decide) (wanted_none rfl) (x_pick_f rfl rfl rfl) fun a h => ?_
            refine Sym.step h rfl (by decide) (wanted_none rfl) (x_assign rfl) fun a h => ?_
            refine wpList_nil ?_
            show Code.wp _ _ _ _ _
            exact r11 true (fun h => by cases h) _ (h.pick [0, 1, 6, 7, 8, 10, 20, 21, 22] rfl)
          case neg =>
            refine Sym.step h rfl (by decide) (wanted_none rfl) (x_move rfl) fun a h => ?_
            refine Sym.step h rfl (by decide) (wanted_none rfl) (x_move rfl) fun a h => ?_
            refine Sym.step h rfl (by decide) (won h rfl rfl rfl (by decide)) (x_move rfl) fun a h => ?_
            refine Sym.step h rfl (by decide) (won h rfl rfl rfl (by decide)) (x_move rfl) fun a h => ?_
            refine Sym.step h rfl (by decide) (won h rfl rfl rfl (by decide)) (Ex.to (x_neqs rfl rfl) (congrArg Value.bool (Bool.eq_false_iff.2 hne))) fun a h => ?_
            refine Sym.step h rfl (by decide) (wanted_none rfl) (x_pick_f rfl rfl rfl) fun a h => ?_
            refine Sym.step h rfl (by decide) (wanted_none rfl) (x_assign rfl) fun a h => ?_
            refine wpList_nil ?_
            show Code.wp _ _ _ _ _
            refine r11 false (fun _ => ⟨rfl, ?_⟩) _ (h.pick [0, 1, 6, 7, 8, 10, 20, 21, 22] rfl)
            have he : (fromName m P).toList = P.toList := by simpa using hne
            rw [Lib.toList_data, Lib.toList_data] at he
            exact Sdl.ba he
set_option maxHeartbeats 1000000 in
theorem impl_to_path (m : Int) (s : ByteArray) (w0 : World) (hg : Glob w0) (hle : s.size ≤ 400000) (hjl : (mapped (toName m) s).size ≤ 100000000000) :
    Calls Tryd.prog 22 #[.int .u64 m, .string s] w0 fun e w' => e = .returned (.string (if m = 33652738 then s else mapped (toName m) s)) ∧ Below w0.heap.size w0 w' := by
  have hN := to_path m s w0 hg hle hjl
  generalize (if m = 33652738 then s else mapped (toName m) s) = r at hN ⊢
  have h1 : Calls Tryd.prog 37 #[.int .u64 m, .string s] w0 fun e w' => e = .returned (.string r) ∧ Below w0.heap.size w0 w' := by
    have HN := Lib.hid hN
    clear hg hN hle hjl
    go_enter Tryd.func37, Tryd.ntmps37
    go_wp2_with (go_at_call 58; (with_reducible refine HN.out.mono ?_); rintro e w1 ⟨rfl, hb1⟩; have HB := Lib.hid hb1; clear hb1)
    go_ret
    exact ⟨rfl, HB.out⟩
  have HN := Lib.hid h1
  clear h1 hg hN hle hjl
  go_enter Tryd.func22, Tryd.ntmps22
  go_wp2_with (go_at_call 37; (with_reducible refine HN.out.mono ?_); rintro e w1 ⟨rfl, hb1⟩; have HB := Lib.hid hb1; clear hb1)
  go_ret
  exact ⟨rfl, HB.out⟩
set_option maxHeartbeats 1000000 in
theorem impl_from_path (m : Int) (s : ByteArray) (w0 : World) (hg : Glob w0) (hle : s.size ≤ 400000) (hjl : (mapped (fromName m) s).size ≤ 100000000000) :
    Calls Tryd.prog 24 #[.int .u64 m, .string s] w0 fun e w' => e = .returned (.string (if m = 33652738 then s else mapped (fromName m) s)) ∧ Below w0.heap.size w0 w' := by
  have hN := from_path m s w0 hg hle hjl
  generalize (if m = 33652738 then s else mapped (fromName m) s) = r at hN ⊢
  have h1 : Calls Tryd.prog 38 #[.int .u64 m, .string s] w0 fun e w' => e = .returned (.string r) ∧ Below w0.heap.size w0 w' := by
    have HN := Lib.hid hN
    clear hg hN hle hjl
    go_enter Tryd.func38, Tryd.ntmps38
    go_wp2_with (go_at_call 59; (with_reducible refine HN.out.mono ?_); rintro e w1 ⟨rfl, hb1⟩; have HB := Lib.hid hb1; clear hb1)
    go_ret
    exact ⟨rfl, HB.out⟩
  have HN := Lib.hid h1
  clear h1 hg hN hle hjl
  go_enter Tryd.func24, Tryd.ntmps24
  go_wp2_with (go_at_call 38; (with_reducible refine HN.out.mono ?_); rintro e w1 ⟨rfl, hb1⟩; have HB := Lib.hid hb1; clear hb1)
  go_ret
  exact ⟨rfl, HB.out⟩
end Go.Proofs.YtlgoghonnnobfaaDoor.Pth
