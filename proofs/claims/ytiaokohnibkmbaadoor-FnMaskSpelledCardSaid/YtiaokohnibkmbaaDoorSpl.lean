import Derived.Test.YtiaokohnibkmbaaDoorSnk
namespace Go.Proofs.YtiaokohnibkmbaaDoor.Spl
open Go Go.RowKit Go.Proofs.YtiaokohnibkmbaaDoor.Fr
open Go.Proofs.YtiaokohnibkmbaaDoor.Enc (piece)
open Go.Proofs.YtiaokohnibkmbaaDoor.Sym Go.Proofs.YtiaokohnibkmbaaDoorW.PrintWords Go.Proofs.YtiaokohnibkmbaaDoorW.PrintLast Go.Proofs.YtiaokohnibkmbaaDoorW.PrintMore
set_option linter.unusedVariables false
set_option linter.unusedSimpArgs false
/-! ### a text parted at a byte: zzIndex and zzSplit, walked -/
theorem enters34 : Enters Tryd.prog 34 := enters_of Tryd.func34 (by kernel_rfl) rfl
theorem enters20 : Enters Tryd.prog 20 := enters_of Tryd.func20 (by kernel_rfl) rfl
/-- Where a byte stands first. -/
def idxB (c : UInt8) (l : List UInt8) : Nat := (l.takeWhile (· != c)).length
/-- The pieces of a text between bytes. -/
def splitB (c : UInt8) : Nat → ByteArray → List ByteArray
  | 0, s => [s]
  | f + 1, s => if idxB c s.data.toList < s.size then s.extract 0 (idxB c s.data.toList) :: splitB c f (s.extract (idxB c s.data.toList + 1) s.size) else [s]
def pieces (c : UInt8) (s : ByteArray) : List ByteArray := splitB c s.size s
section
variable {w : World} {l : Slots} {x y z : Operand} {d : Option Tmp} {ty : TypeId} {pos : String} {aft : Array Edge} {g : Option (Nat × Bool)}
theorem x_cut {s : ByteArray} {i j : Nat} (hx : ev l x = some (.string s)) (hy : ev l y = some (.int .i64 (i : Int))) (hz : ev l z = some (.int .i64 (j : Int))) (h1 : i ≤ j) (h2 : j ≤ s.size) :
    Ex Tryd.prog l w { dst := d, op := .slice 9 x (some y) (some z) none, type := ty, pos := pos, after := aft, guard := g } (.string (s.extract i j)) w := fun N a h => by
  simp only [execOp, h.ev hx, h.ev hy, h.ev hz, Option.map_some, Option.map_none]
  have := run_slice_string (P := Tryd.prog) w 9 s .i64 .i64 (i : Int) (j : Int) Tryd.underlying9 (by omega) (by omega) (by omega)
  rw [Int.toNat_natCast, Int.toNat_natCast] at this
  simp [go_sem, this]
theorem x_cutto {s : ByteArray} {j : Nat} (hx : ev l x = some (.string s)) (hz : ev l z = some (.int .i64 (j : Int))) (h2 : j ≤ s.size) :
    Ex Tryd.prog l w { dst := d, op := .slice 9 x none (some z) none, type := ty, pos := pos, after := aft, guard := g } (.string (s.extract 0 j)) w := fun N a h => by
  simp only [execOp, h.ev hx, h.ev hz, Option.map_some, Option.map_none]
  have hu := Tryd.underlying9
  have h3 : ((j : Int)).toNat = j := Int.toNat_natCast j
  simp [go_sem, hu, h2, h3]
theorem x_cutfrom {s : ByteArray} {i : Nat} (hx : ev l x = some (.string s)) (hy : ev l y = some (.int .i64 (i : Int))) (h2 : i ≤ s.size) :
    Ex Tryd.prog l w { dst := d, op := .slice 9 x (some y) none none, type := ty, pos := pos, after := aft, guard := g } (.string (s.extract i s.size)) w := fun N a h => by
  simp only [execOp, h.ev hx, h.ev hy, Option.map_some, Option.map_none]
  have hu := Tryd.underlying9
  have h3 : ((i : Int)).toNat = i := Int.toNat_natCast i
  simp [go_sem, hu, h2, h3]
theorem run_build1 (s : ByteArray) : (Instr.buildSlice 40 1 #[(0, .string s)]).run Tryd.prog w = .ok (.slice (some ⟨w.heap.size, 0, none⟩) 1 1) (w.alloc (.cells #[.string s] 9)) := by kernel_rfl
theorem x_build1 {s : ByteArray} (hx : ev l x = some (.string s)) :
    Ex Tryd.prog l w { dst := d, op := .buildSlice 40 1 #[(0, x)], type := ty, pos := pos, after := aft, guard := g } (.slice (some ⟨w.heap.size, 0, none⟩) 1 1) (w.alloc (.cells #[.string s] 9)) := fun N a h => by
  have e : (#[(0, x)] : Array (Nat × Operand)).map (fun (i, x) => (i, a.eval x)) = #[(0, .string s)] := by
    simp only [List.map_toArray, List.map_cons, List.map_nil, h.ev hx]
  simp only [execOp, e]
  have := run_build1 (w := w) s
  simp only [Sem.run_bind, Sem.run_pure, Result.andThen_ok, this]
end
theorem infStr : (Tryd.prog.info? 9).map (fun i => (i.zero, i.size, i.bytes)) = some (some (.string ⟨#[]⟩), 1, 16) := by kernel_rfl
/-! #### where it stands -/
theorem get_list (s : ByteArray) (i : Nat) (h : i < s.size) : s.data.toList[i]'h = s.get! i := by
  have : s.get! i = s.data[i] := getElem!_pos s.data i h
  rw [this]; rfl
theorem idx_le (c : UInt8) (l : List UInt8) : idxB c l ≤ l.length := (List.takeWhile_sublist _).length_le
theorem idx_at (c : UInt8) : ∀ (l : List UInt8) (i : Nat) (h : i < l.length), (∀ j (hj : j < i), l[j]'(by omega) ≠ c) → l[i] = c → idxB c l = i
  | [], i, h, _, _ => by simp at h
  | a :: l, 0, h, _, e => by
    have : a = c := e
    unfold idxB
    rw [List.takeWhile_cons, if_neg (by simp [this])]
    rfl
  | a :: l, i + 1, h, hn, e => by
    have h0 : a ≠ c := hn 0 (by omega)
    unfold idxB
    rw [List.takeWhile_cons, if_pos (by simpa using h0), List.length_cons]
    have := idx_at c l i (by simp at h; omega) (fun j hj => by have := hn (j + 1) (by omega); simpa using this) (by simpa using e)
    unfold idxB at this
    rw [this]
theorem idx_none (c : UInt8) : ∀ (l : List UInt8), (∀ j (hj : j < l.length), l[j] ≠ c) → idxB c l = l.length
  | [], _ => rfl
  | a :: l, hn => by
    have h0 : a ≠ c := hn 0 (by simp)
    unfold idxB
    rw [List.takeWhile_cons, if_pos (by simpa using h0), List.length_cons, List.length_cons]
    have := idx_none c l fun j hj => by have := hn (j + 1) (by simp; omega); simpa using this
    unfold idxB at this
    rw [this]
theorem ext_one (s : ByteArray) (i : Nat) (h : i < s.size) : (s.extract i (i + 1)).toList = [s.get! i] := by
  rw [Lib.extract_toList, Nat.add_sub_cancel_left]
  have hd : i < s.data.toList.length := h
  rw [List.drop_eq_getElem_cons hd, List.take_succ_cons, List.take_zero, get_list s i h]
/-- The first place as the walk tells it. -/
def idxI (c : UInt8) (s : ByteArray) : Int := if idxB c s.data.toList < s.size then (idxB c s.data.toList : Int) else -1
set_option maxRecDepth 100000 in
set_option maxHeartbeats 2000000 in
theorem index_any (c : UInt8) (s : ByteArray) (w : World) (hs : s.size ≤ 1099511627776) : Calls Tryd.prog 34 #[.string s, .string ⟨#[c]⟩] w fun e w' => e = .returned (.int .i64 (idxI c s)) ∧ w' = w := by
  refine calls_of_wp Tryd.func34 rfl ?_
  have h : Fm 25 [(0, .string s), (1, .string ⟨#[c]⟩)] ⟨#[Value.string s, .string ⟨#[c]⟩] ++ Array.replicate (Tryd.f34.ntmps - (#[Value.string s, .string ⟨#[c]⟩] : Array Value).size) undef, []⟩ := Fm.start _ _ _ (by kernel_rfl) lk2
  generalize (⟨#[Value.string s, .string ⟨#[c]⟩] ++ Array.replicate (Tryd.f34.ntmps - (#[Value.string s, .string ⟨#[c]⟩] : Array Value).size) undef, []⟩ : Act) = a at h
  have hsz : s.data.toList.length = s.size := rfl
  refine wp_seq ?_
  refine wp_region_lit ?_
  refine Sym.step h rfl (by decide) (wanted_none rfl) (x_assign rfl) fun a h => ?_
  refine wpList_nil ?_
  show Code.wp _ _ _ _ _
  refine wp_seq ?_
  refine wp_seq ?_
  refine wp_region_lit ?_
  refine Sym.step h rfl (by decide) (wanted_none rfl) (x_assign rfl) fun a h => ?_
  refine wpList_nil ?_
  show Code.wp _ _ _ _ _
  refine wp_block ?_
  refine wp_loop_ghost (fun n a' W => ∃ i : Nat, i ≤ s.size ∧ n = s.size - i ∧ Fm 25 [(0, .string s), (1, .string ⟨#[c]⟩), (5, .int .i64 (i : Int))] a' ∧ W = w ∧ ∀ j (hj : j < i) (h : j < s.size), s.get! j ≠ c) s.size ⟨0, by omega, rfl, by exact h.pick [0, 1, 5] rfl, rfl, fun j hj => absurd hj (by omega)⟩ ?_
  clear h
  rintro n a W ⟨i, hi, rfl, h, rfl, hn⟩
  have hadd : IntKind.i64.wrap ((i : Int) + (1 : Int)) = ((i + 1 : Nat) : Int) := by rw [IntKind.wrap_i64]; omega
  have hl1 : (((⟨#[c]⟩ : ByteArray).size : Nat) : Int) = 1 := rfl
  refine wp_seq ?_
  refine wp_seq ?_
  refine wp_region_lit ?_
  by_cases hlt : decide (((i + 1 : Nat) : Int) ≤ (s.size : Int)) = true
  case neg =>
    refine Sym.step h rfl (by decide) (wanted_none rfl) (x_move rfl) fun a h => ?_
    refine Sym.step h rfl (by decide) (wanted_none rfl) (x_move rfl) fun a h => ?_
    refine Sym.step h rfl (by decide) (wanted_none rfl) (x_len Tryd.underlying9 rfl) fun a h => ?_
    refine Sym.step h rfl (by decide) (wanted_none rfl) (x_addi Tryd.underlying3 rfl rfl hadd) fun a h => ?_
    refine Sym.step h rfl (by decide) (wanted_none rfl) (x_move rfl) fun a h => ?_
    refine Sym.step h rfl (by decide) (wanted_none rfl) (x_len Tryd.underlying9 rfl) fun a h => ?_
    refine Sym.step h rfl (by decide) (wanted_none rfl) (Ex.to (x_leqi Tryd.underlying3 rfl rfl) (congrArg Value.bool (Bool.eq_false_iff.2 hlt))) fun a h => ?_
    refine wpList_nil ?_
    show Code.wp _ _ _ _ _
    refine wp_cond_false (h.slot 12 _ rfl) (wp_exit ?_)
    show Code.wp _ _ _ _ _
    have hi' : i = s.size := by
      rcases Nat.lt_or_ge i s.size with h' | h'
      · exact absurd (decide_eq_true (by omega)) hlt
      · omega
    refine wp_seq ?_
    refine wp_region_lit ?_
    refine Sym.step h rfl (by decide) (wanted_none rfl) (x_assign rfl) fun a h => ?_
    refine wpList_nil ?_
    show Code.wp _ _ _ _ _
    refine wp_ret ?_
    refine ret_slot h rfl (by decide) rfl ⟨?_, rfl⟩
    have e := idx_none c s.data.toList (fun j hj => by rw [get_list s j hj]; exact hn j (by rw [hi']; exact hj) hj)
    rw [idxI, if_neg (by rw [e, hsz]; omega)]
  case pos =>
    have hil : i < s.size := by have := of_decide_eq_true hlt; omega
    refine Sym.step h rfl (by decide) (wanted_none rfl) (x_move rfl) fun a h => ?_
    refine Sym.step h rfl (by decide) (wanted_none rfl) (x_move rfl) fun a h => ?_
    refine Sym.step h rfl (by decide) (wanted_none rfl) (x_len Tryd.underlying9 rfl) fun a h => ?_
    refine Sym.step h rfl (by decide) (wanted_none rfl) (x_addi Tryd.underlying3 rfl rfl hadd) fun a h => ?_
    refine Sym.step h rfl (by decide) (wanted_none rfl) (x_move rfl) fun a h => ?_
    refine Sym.step h rfl (by decide) (wanted_none rfl) (x_len Tryd.underlying9 rfl) fun a h => ?_
    refine Sym.step h rfl (by decide) (wanted_none rfl) (Ex.to (x_leqi Tryd.underlying3 rfl rfl) (congrArg Value.bool hlt)) fun a h => ?_
    refine wpList_nil ?_
    show Code.wp _ _ _ _ _
    refine wp_cond_true (h.slot 12 _ rfl) (wp_skip ?_)
    show Code.wp _ _ _ _ _
    refine wp_seq ?_
    refine wp_block ?_
    refine wp_seq ?_
    refine wp_region_lit ?_
    have e1 := ext_one s i hil
    have e2 : (⟨#[c]⟩ : ByteArray).toList = [c] := by rw [Lib.toList_data]
    by_cases hc : ((s.extract i (i + 1)).toList == (⟨#[c]⟩ : ByteArray).toList) = true
    case pos =>
      refine Sym.step h rfl (by decide) (wanted_none rfl) (x_move rfl) fun a h => ?_
      refine Sym.step h rfl (by decide) (wanted_none rfl) (x_move rfl) fun a h => ?_
      refine Sym.step h rfl (by decide) (wanted_none rfl) (x_move rfl) fun a h => ?_
      refine Sym.step h rfl (by decide) (wanted_none rfl) (x_move rfl) fun a h => ?_
      refine Sym.step h rfl (by decide) (wanted_none rfl) (x_len Tryd.underlying9 rfl) fun a h => ?_
      refine Sym.step h rfl (by decide) (wanted_none rfl) (x_addi Tryd.underlying3 rfl rfl hadd) fun a h => ?_
      refine Sym.step h rfl (by decide) (wanted_none rfl) (x_cut rfl rfl rfl (by omega) hil) fun a h => ?_
      refine Sym.step h rfl (by decide) (wanted_none rfl) (x_move rfl) fun a h => ?_
      refine Sym.step h rfl (by decide) (wanted_none rfl) (Ex.to (x_eqls Tryd.underlying9 rfl rfl) (congrArg Value.bool hc)) fun a h => ?_
      refine wpList_nil ?_
      show Code.wp _ _ _ _ _
      refine wp_cond_true (h.slot 23 _ rfl) ?_
      refine wp_seq ?_
      refine wp_region_lit ?_
      refine Sym.step h rfl (by decide) (wanted_none rfl) (x_move rfl) fun a h => ?_
      refine Sym.step h rfl (by decide) (wanted_none rfl) (x_assign rfl) fun a h => ?_
      refine wpList_nil ?_
      show Code.wp _ _ _ _ _
      refine wp_ret ?_
      refine (show bodyPost Tryd.prog Tryd.f34 (fun e w' => e = .returned (.int .i64 (idxI c s)) ∧ w' = W) .ret _ _ from ret_slot h rfl (by decide) rfl ⟨?_, rfl⟩)
      rw [e1, e2] at hc
      have hc' : s.get! i = c := by simpa using hc
      have e := idx_at c s.data.toList i hil (fun j hj => by rw [get_list s j (by omega)]; exact hn j hj (by omega)) (by rw [get_list s i hil]; exact hc')
      rw [idxI, e, if_pos hil]
    case neg =>
      refine Sym.step h rfl (by decide) (wanted_none rfl) (x_move rfl) fun a h => ?_
      refine Sym.step h rfl (by decide) (wanted_none rfl) (x_move rfl) fun a h => ?_
      refine Sym.step h rfl (by decide) (wanted_none rfl) (x_move rfl) fun a h => ?_
      refine Sym.step h rfl (by decide) (wanted_none rfl) (x_move rfl) fun a h => ?_
      refine Sym.step h rfl (by decide) (wanted_none rfl) (x_len Tryd.underlying9 rfl) fun a h => ?_
      refine Sym.step h rfl (by decide) (wanted_none rfl) (x_addi Tryd.underlying3 rfl rfl hadd) fun a h => ?_
      refine Sym.step h rfl (by decide) (wanted_none rfl) (x_cut rfl rfl rfl (by omega) hil) fun a h => ?_
      refine Sym.step h rfl (by decide) (wanted_none rfl) (x_move rfl) fun a h => ?_
      refine Sym.step h rfl (by decide) (wanted_none rfl) (Ex.to (x_eqls Tryd.underlying9 rfl rfl) (congrArg Value.bool (Bool.eq_false_iff.2 hc))) fun a h => ?_
      refine wpList_nil ?_
      show Code.wp _ _ _ _ _
      refine wp_cond_false (h.slot 23 _ rfl) (wp_skip ?_)
      show Code.wp _ _ _ _ _
      refine wp_region_lit ?_
      refine Sym.step h rfl (by decide) (wanted_none rfl) (x_move rfl) fun a h => ?_
      refine Sym.step h rfl (by decide) (wanted_none rfl) (x_addi Tryd.underlying3 rfl rfl hadd) fun a h => ?_
      refine Sym.step h rfl (by decide) (wanted_none rfl) (x_assign rfl) fun a h => ?_
      refine wpList_nil ?_
      refine ⟨s.size - (i + 1), by omega, i + 1, hil, rfl, h.pick [0, 1, 5] rfl, rfl, fun j hj hjs => ?_⟩
      rcases Nat.lt_or_ge j i with h' | h'
      · exact hn j h' hjs
      · have : j = i := by omega
        subst this
        rw [e1, e2] at hc
        simpa using hc
theorem split_fuel (c : UInt8) : ∀ (f g : Nat) (s : ByteArray), s.size ≤ f → s.size ≤ g → splitB c f s = splitB c g s
  | f, g, s, hf, hg => by
    by_cases h : idxB c s.data.toList < s.size
    · cases f with
      | zero => omega
      | succ f =>
        cases g with
        | zero => omega
        | succ g =>
          have he : (s.extract (idxB c s.data.toList + 1) s.size).size ≤ s.size - 1 := by rw [ByteArray.size_extract]; omega
          rw [splitB, splitB, if_pos h, if_pos h, split_fuel c f g _ (by omega) (by omega)]
    · have e : ∀ f, splitB c f s = [s] := fun f => by
        cases f with
        | zero => rfl
        | succ f => rw [splitB, if_neg h]
      rw [e, e]
/-! #### the pieces -/
theorem split_end (c : UInt8) (f : Nat) (s : ByteArray) (h : ¬ idxB c s.data.toList < s.size) : splitB c f s = [s] := by
  cases f with
  | zero => rfl
  | succ f => rw [splitB, if_neg h]
theorem ext_size (s : ByteArray) (i : Nat) : (s.extract i s.size).size = s.size - i := by rw [ByteArray.size_extract]; omega
set_option maxRecDepth 100000 in
set_option maxHeartbeats 4000000 in
theorem split_any (c : UInt8) (s : ByteArray) (w : World) (hs : s.size ≤ 1000000) : Calls Tryd.prog 20 #[.string s, .string ⟨#[c]⟩] w fun e w' => ∃ v, e = .returned v ∧ Kd.R Kd.string 9 w' w.heap.size (fun _ => True) v (pieces c s) ∧ Below w.heap.size w w' := by
  refine calls_of_wp Tryd.func20 rfl ?_
  have h : Fm 58 [(0, .string s), (1, .string ⟨#[c]⟩)] ⟨#[Value.string s, .string ⟨#[c]⟩] ++ Array.replicate (Tryd.f20.ntmps - (#[Value.string s, .string ⟨#[c]⟩] : Array Value).size) undef, []⟩ := Fm.start _ _ _ (by kernel_rfl) lk2
  generalize (⟨#[Value.string s, .string ⟨#[c]⟩] ++ Array.replicate (Tryd.f20.ntmps - (#[Value.string s, .string ⟨#[c]⟩] : Array Value).size) undef, []⟩ : Act) = a at h
  refine wp_seq ?_
  refine wp_region_lit ?_
  refine Sym.step h rfl (by decide) (wanted_none rfl) (x_assign rfl) fun a h => ?_
  refine wpList_nil ?_
  show Code.wp _ _ _ _ _
  refine wp_seq ?_
  refine wp_region_lit ?_
  refine Sym.step h rfl (by decide) (wanted_none rfl) (x_assign rfl) fun a h => ?_
  refine wpList_nil ?_
  show Code.wp _ _ _ _ _
  refine wp_seq ?_
  refine wp_seq ?_
  refine wp_region_lit ?_
  refine Sym.step h rfl (by decide) (wanted_none rfl) (x_move rfl) fun a h => ?_
  refine Sym.step h rfl (by decide) (wanted_none rfl) (x_len Tryd.underlying9 rfl) fun a h => ?_
  refine Sym.step h rfl (by decide) (wanted_none rfl) (Ex.to (x_eqli Tryd.underlying3 rfl rfl) (congrArg Value.bool (show ((((⟨#[c]⟩ : ByteArray).size : Nat) : Int) == 0) = false from rfl))) fun a h => ?_
  refine wpList_nil ?_
  show Code.wp _ _ _ _ _
  refine wp_cond_false (h.slot 11 _ rfl) (wp_skip ?_)
  show Code.wp _ _ _ _ _
  refine wp_block ?_
  refine wp_loop_ghost (fun n a' W => ∃ cur v xs, n = cur.size ∧ Fm 58 [(0, .string cur), (1, .string ⟨#[c]⟩), (5, v)] a' ∧ Kd.R Kd.string 9 W w.heap.size (fun _ => True) v xs ∧ Below w.heap.size w W ∧ xs ++ splitB c cur.size cur = pieces c s ∧ xs.length + cur.size ≤ 1000000) s.size ⟨s, .slice none 0 0, [], rfl, by exact h.pick [0, 1, 5] rfl, Kd.R_nil _ _ _ _ _, Below.refl _ _, rfl, by simpa using hs⟩ ?_
  clear h
  rintro n a W ⟨cur, v, xs, rfl, h, hR, hB, hsum, hlen⟩
  refine wp_block ?_
  refine wp_seq ?_
  refine wp_region_lit ?_
  refine Sym.step h rfl (by decide) (wanted_none rfl) (x_move rfl) fun a h => ?_
  refine Sym.step h rfl (by decide) (wanted_none rfl) (x_move rfl) fun a h => ?_
  refine Sym.call h rfl (by decide) (wanted_none rfl) rfl enters34 (fun a h => map2 h rfl rfl) ?_
  refine (index_any c cur W (by omega)).mono ?_
  rintro e W1 ⟨rfl, rfl⟩
  refine ⟨_, rfl, fun a h => ?_⟩
  refine Sym.step h rfl (by decide) (wanted_none rfl) (x_assign rfl) fun a h => ?_
  refine wpList_nil ?_
  show Code.wp _ _ _ _ _
  have hle := idx_le c cur.data.toList
  have hcs : cur.data.toList.length = cur.size := rfl
  refine wp_seq ?_
  refine wp_seq ?_
  refine wp_region_lit ?_
  by_cases hi : idxB c cur.data.toList < cur.size
  case neg =>
    have hneg : decide (idxI c cur < 0) = true := by rw [idxI, if_neg hi]; rfl
    refine Sym.step h rfl (by decide) (wanted_none rfl) (x_move rfl) fun a h => ?_
    refine Sym.step h rfl (by decide) (wanted_none rfl) (Ex.to (x_lssi Tryd.underlying3 rfl rfl) (congrArg Value.bool hneg)) fun a h => ?_
    refine wpList_nil ?_
    show Code.wp _ _ _ _ _
    refine wp_cond_true (h.slot 41 _ rfl) ?_
    refine wp_seq ?_
    refine wp_region_lit ?_
    refine Sym.step h rfl (by decide) (wanted_none rfl) (x_move rfl) fun a h => ?_
    refine Sym.step h rfl (by decide) (wanted_none rfl) (x_move rfl) fun a h => ?_
    refine Sym.step h rfl (by decide) (wanted_none rfl) (x_build1 rfl) fun a h => ?_
    refine Kd.R_append Kd.string (w0 := w) w.heap.size rfl (.tmp 42) (.tmp 44) 40 9 (.string ⟨#[]⟩) 16 rfl Tryd.underlying40 infStr rfl (by decide) (by omega) v xs cur [.string cur] (fun _ => True) (fun _ => False) (h.slot 42 _ rfl) (h.slot 44 _ rfl) rfl (fun _ hk => hk.elim) (fun _ _ => trivial) hR hB hB.size (by omega) ?_
    intro v1 W2 hR2 hB2 _ _
    replace h := h.put (d := 45) (by decide) v1
    generalize Act.put _ (some 45) v1 = a at h
    refine (show wpList _ _ _ _ _ _ from ?_)
    refine Sym.step h rfl (by decide) (wanted_none rfl) (x_assign rfl) fun a h => ?_
    refine wpList_nil ?_
    show Code.wp _ _ _ _ _
    refine wp_ret ?_
    refine (show bodyPost Tryd.prog Tryd.f20 (fun e w' => ∃ v, e = .returned v ∧ Kd.R Kd.string 9 w' w.heap.size (fun _ => True) v (pieces c s) ∧ Below w.heap.size w w') .ret _ _ from ret_slot h rfl (by decide) rfl ⟨v1, rfl, ?_, hB2⟩)
    rw [split_end c _ cur hi] at hsum
    rw [← hsum]
    exact hR2
  case pos =>
    have hI : idxI c cur = ((idxB c cur.data.toList : Nat) : Int) := by rw [idxI, if_pos hi]
    have hneg : decide (((idxB c cur.data.toList : Nat) : Int) < 0) = false := decide_eq_false (by omega)
    rw [hI] at h
    refine Sym.step h rfl (by decide) (wanted_none rfl) (x_move rfl) fun a h => ?_
    refine Sym.step h rfl (by decide) (wanted_none rfl) (Ex.to (x_lssi Tryd.underlying3 rfl rfl) (congrArg Value.bool hneg)) fun a h => ?_
    refine wpList_nil ?_
    show Code.wp _ _ _ _ _
    refine wp_cond_false (h.slot 41 _ rfl) (wp_skip ?_)
    show Code.wp _ _ _ _ _
    refine wp_seq ?_
    refine wp_region_lit ?_
    refine Sym.step h rfl (by decide) (wanted_none rfl) (x_move rfl) fun a h => ?_
    refine Sym.step h rfl (by decide) (wanted_none rfl) (x_move rfl) fun a h => ?_
    refine Sym.step h rfl (by decide) (wanted_none rfl) (x_move rfl) fun a h => ?_
    refine Sym.step h rfl (by decide) (wanted_none rfl) (x_cutto rfl rfl (by omega)) fun a h => ?_
    refine Sym.step h rfl (by decide) (wanted_none rfl) (x_build1 rfl) fun a h => ?_
    refine Kd.R_append Kd.string (w0 := w) w.heap.size rfl (.tmp 46) (.tmp 50) 40 9 (.string ⟨#[]⟩) 16 rfl Tryd.underlying40 infStr rfl (by decide) (by omega) v xs (cur.extract 0 (idxB c cur.data.toList)) [.string (cur.extract 0 (idxB c cur.data.toList))] (fun _ => True) (fun _ => False) (h.slot 46 _ rfl) (h.slot 50 _ rfl) rfl (fun _ hk => hk.elim) (fun _ _ => trivial) hR hB hB.size (by omega) ?_
    intro v1 W2 hR2 hB2 _ _
    replace h := h.put (d := 51) (by decide) v1
    generalize Act.put _ (some 51) v1 = a at h
    refine (show wpList _ _ _ _ _ _ from ?_)
    refine Sym.step h rfl (by decide) (wanted_none rfl) (x_assign rfl) fun a h => ?_
    refine wpList_nil ?_
    show Code.wp _ _ _ _ _
    refine wp_region_lit ?_
    have hadd : IntKind.i64.wrap (((idxB c cur.data.toList : Nat) : Int) + (((⟨#[c]⟩ : ByteArray).size : Nat) : Int)) = ((idxB c cur.data.toList + 1 : Nat) : Int) := by
      have : (((⟨#[c]⟩ : ByteArray).size : Nat) : Int) = 1 := rfl
      rw [this, IntKind.wrap_i64]; omega
    refine Sym.step h rfl (by decide) (wanted_none rfl) (x_move rfl) fun a h => ?_
    refine Sym.step h rfl (by decide) (wanted_none rfl) (x_move rfl) fun a h => ?_
    refine Sym.step h rfl (by decide) (wanted_none rfl) (x_move rfl) fun a h => ?_
    refine Sym.step h rfl (by decide) (wanted_none rfl) (x_len Tryd.underlying9 rfl) fun a h => ?_
    refine Sym.step h rfl (by decide) (wanted_none rfl) (x_addi Tryd.underlying3 rfl rfl hadd) fun a h => ?_
    refine Sym.step h rfl (by decide) (wanted_none rfl) (x_cutfrom rfl rfl (by omega)) fun a h => ?_
    refine Sym.step h rfl (by decide) (wanted_none rfl) (x_assign rfl) fun a h => ?_
    refine wpList_nil ?_
    have he := ext_size cur (idxB c cur.data.toList + 1)
    refine ⟨(cur.extract (idxB c cur.data.toList + 1) cur.size).size, by omega, cur.extract (idxB c cur.data.toList + 1) cur.size, v1, xs ++ [cur.extract 0 (idxB c cur.data.toList)], rfl, h.pick [0, 1, 5] rfl, hR2, hB2, ?_, ?_⟩
    · obtain ⟨n, hn⟩ : ∃ n, cur.size = n + 1 := ⟨cur.size - 1, by omega⟩
      rw [← hsum, hn, splitB, if_pos hi, List.append_assoc, ← hn]
      rw [split_fuel c n _ _ (by omega) (Nat.le_refl _)]
      rfl
    · rw [List.length_append]; simp only [List.length_singleton]; omega
end Go.Proofs.YtiaokohnibkmbaaDoor.Spl
