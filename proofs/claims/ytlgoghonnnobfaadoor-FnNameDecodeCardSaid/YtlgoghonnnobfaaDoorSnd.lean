import Derived.Test.YtlgoghonnnobfaaDoorSnk
namespace Go.Proofs.YtlgoghonnnobfaaDoor.Snd
open Go Go.RowKit Go.Proofs.YtlgoghonnnobfaaDoor.Fr Go.Proofs.YtlgoghonnnobfaaDoor.Enc Go.Proofs.YtlgoghonnnobfaaDoor.Sym Go.Proofs.YtlgoghonnnobfaaDoor.Sfn Go.Proofs.YtlgoghonnnobfaaDoor.Spc Go.Proofs.YtlgoghonnnobfaaDoorW.PrintWords Go.Proofs.YtlgoghonnnobfaaDoorW.PrintLast Go.Proofs.YtlgoghonnnobfaaDoorW.PrintMore
set_option linter.unusedVariables false
set_option linter.unusedSimpArgs false
/-! ### spec.NameDecode, walked -/
theorem enters25 : Enters Tryd.prog 25 := enters_of Tryd.func25 (by kernel_rfl) rfl
theorem enters26 : Enters Tryd.prog 26 := enters_of Tryd.func26 (by kernel_rfl) rfl
theorem enters27 : Enters Tryd.prog 27 := enters_of Tryd.func27 (by kernel_rfl) rfl
theorem enters28 : Enters Tryd.prog 28 := enters_of Tryd.func28 (by kernel_rfl) rfl
theorem enters31 : Enters Tryd.prog 31 := enters_of Tryd.func31 (by kernel_rfl) rfl
theorem enters32 : Enters Tryd.prog 32 := enters_of Tryd.func32 (by kernel_rfl) rfl
theorem enters33 : Enters Tryd.prog 33 := enters_of Tryd.func33 (by kernel_rfl) rfl
theorem enters34 : Enters Tryd.prog 34 := enters_of Tryd.func34 (by kernel_rfl) rfl
theorem x_box37 {w : World} {l : Slots} {x : Operand} {d : Option Tmp} {ty : TypeId} {pos : String} {aft : Array Edge} {g : Option (Nat × Bool)} {s : ByteArray} {c : Int} {b : Bool} (hx : ev l x = some (.agg #[.string s, .int .i32 c, .bool b])) :
    Ex Tryd.prog l w { dst := d, op := .box 37 x, type := ty, pos := pos, after := aft, guard := g } (.pointer (some ⟨w.heap.size, 0, none⟩)) (w.alloc (.cells #[.string s, .int .i32 c, .bool b] 37)) := fun N a h => by
  simp only [execOp, h.ev hx]
  have hu := Tryd.underlying37
  simp [go_sem, hu]
def leftB (m c : Int) : Bool := decide (0 ≤ signOf c) && takesL m (signOf c)
theorem oldB {w w' : World} {k : Nat} {o : Obj} (hb : Below w.heap.size w w') (h : w.heap[k]? = some o) : w'.heap[k]? = some o :=
  (hb.block k (Array.getElem?_eq_some_iff.1 h).1).trans h
theorem quiet_below {w w' : World} (h : ∃ n, w' = w.drewN n) : Below w.heap.size w w' := by
  obtain ⟨n, rfl⟩ := h
  exact ⟨rfl, rfl, rfl, Nat.le_refl _, fun _ _ => rfl⟩
set_option maxRecDepth 100000 in
set_option maxHeartbeats 2000000 in
theorem left_any (m c : Int) (s : ByteArray) (b : Bool) (b0 : Nat) (w : World) (hb : w.heap[b0]? = some (.cells #[.int .u64 m] 22 (0, 0))) :
    Calls Tryd.prog 32 #[.agg #[.string s, .int .i32 c, .bool b], .pointer (some ⟨b0, 0, none⟩)] w fun e w' => e = .returned (.bool (leftB m c)) ∧ Below w.heap.size w w' := by
  refine calls_of_wp Tryd.func32 rfl ?_
  have h : Fm 15 [(0, .agg #[.string s, .int .i32 c, .bool b]), (1, .pointer (some ⟨b0, 0, none⟩))] ⟨#[Value.agg #[.string s, .int .i32 c, .bool b], .pointer (some ⟨b0, 0, none⟩)] ++ Array.replicate (Tryd.f32.ntmps - (#[Value.agg #[.string s, .int .i32 c, .bool b], .pointer (some ⟨b0, 0, none⟩)] : Array Value).size) undef, []⟩ := Fm.start _ _ _ (by kernel_rfl) lk2
  generalize (⟨#[Value.agg #[.string s, .int .i32 c, .bool b], .pointer (some ⟨b0, 0, none⟩)] ++ Array.replicate (Tryd.f32.ntmps - (#[Value.agg #[.string s, .int .i32 c, .bool b], .pointer (some ⟨b0, 0, none⟩)] : Array Value).size) undef, []⟩ : Act) = a at h
  have hlt := (Array.getElem?_eq_some_iff.1 hb).1
  refine wp_seq ?_
  refine wp_region_lit ?_
  refine Sym.step h rfl (by decide) (wanted_none rfl) (x_box37 rfl) fun a h => ?_
  refine Sym.step h rfl (by decide) (wanted_none rfl) (x_assign rfl) fun a h => ?_
  refine wpList_nil ?_
  show Code.wp _ _ _ _ _
  have hB : Below w.heap.size w (w.alloc (.cells #[.string s, .int .i32 c, .bool b] 37)) := (Below.refl _ w).alloc (Nat.le_refl _) _
  have hm : (w.alloc (.cells #[.string s, .int .i32 c, .bool b] 37)).cell? ⟨b0, 0, none⟩ = some (.int .u64 m) := by
    have := (heap_alloc_old w (.cells #[.string s, .int .i32 c, .bool b] 37) hlt).trans hb
    simp [World.cell?, this]
  have hc1 : (w.alloc (.cells #[.string s, .int .i32 c, .bool b] 37)).cell? ((⟨w.heap.size, 0, none⟩ : Addr).add 1) = some (.int .i32 c) := by
    exact cell_at (heap_alloc_new w (.cells #[.string s, .int .i32 c, .bool b] 37)) rfl
  generalize w.alloc (.cells #[.string s, .int .i32 c, .bool b] 37) = w1 at hB hm hc1
  refine wp_seq ?_
  refine wp_region_quiet_lit (by kernel_rfl) (by kernel_rfl) ?_
  by_cases c1 : decide (0 ≤ signOf c) = true

  · refine q_step h rfl (by decide) (wanted_none rfl) (fun w hw => x_field37 1 (by decide) rfl) fun a h => ?_
    refine q_step h rfl (by decide) (wanted_none rfl) (by intro w hw; exact x_loadi Tryd.underlying21 rfl (q_cell hw hc1)) fun a h => ?_
    refine q_call h rfl (by decide) (wanted_none rfl) rfl enters33 (fun a h => map1 h rfl) (fun w => signOf_any c w) fun a h => ?_
    refine q_step h rfl (by decide) (wanted_none rfl) (fun w hw => Ex.to (x_geqi Tryd.underlying21 rfl rfl) (congrArg Value.bool c1)) fun a h => ?_
    refine q_step h rfl (by decide) (wanted_none rfl) (fun w hw => x_move rfl) fun a h => ?_
    refine q_step h rfl (by decide) (won h rfl rfl rfl (by decide)) (by intro w hw; exact x_loadi Tryd.underlying22 rfl (q_cell hw hm)) fun a h => ?_
    refine q_step h rfl (by decide) (won h rfl rfl rfl (by decide)) (fun w hw => x_field37 1 (by decide) rfl) fun a h => ?_
    refine q_step h rfl (by decide) (won h rfl rfl rfl (by decide)) (by intro w hw; exact x_loadi Tryd.underlying21 rfl (q_cell hw hc1)) fun a h => ?_
    refine q_call h rfl (by decide) (won h rfl rfl rfl (by decide)) rfl enters33 (fun a h => map1 h rfl) (fun w => signOf_any c w) fun a h => ?_
    refine q_call h rfl (by decide) (won h rfl rfl rfl (by decide)) rfl enters27 (fun a h => map2 h rfl rfl) (fun w => takesL_any m (signOf c) w) fun a h => ?_
    refine q_step h rfl (by decide) (wanted_none rfl) (fun w hw => x_pick_t rfl rfl rfl) fun a h => ?_
    refine q_step h rfl (by decide) (wanted_none rfl) (fun w hw => x_assign rfl) fun a h => ?_
    intro w2 hw2
    show Code.wp _ _ _ _ _
    refine wp_ret ?_
    refine ret_slot h rfl (by decide) rfl ⟨?_, hB.trans ((quiet_below hw2).mono hB.size)⟩
    rw [leftB, c1, Bool.true_and]
  · refine q_step h rfl (by decide) (wanted_none rfl) (fun w hw => x_field37 1 (by decide) rfl) fun a h => ?_
    refine q_step h rfl (by decide) (wanted_none rfl) (by intro w hw; exact x_loadi Tryd.underlying21 rfl (q_cell hw hc1)) fun a h => ?_
    refine q_call h rfl (by decide) (wanted_none rfl) rfl enters33 (fun a h => map1 h rfl) (fun w => signOf_any c w) fun a h => ?_
    refine q_step h rfl (by decide) (wanted_none rfl) (fun w hw => Ex.to (x_geqi Tryd.underlying21 rfl rfl) (congrArg Value.bool (Bool.eq_false_iff.2 c1))) fun a h => ?_
    refine q_step h rfl (by decide) (wanted_none rfl) (fun w hw => x_move rfl) fun a h => ?_
    refine q_off h rfl (by decide) (woff h rfl rfl rfl (by decide)) fun a h => ?_
    refine q_off h rfl (by decide) (woff h rfl rfl rfl (by decide)) fun a h => ?_
    refine q_off h rfl (by decide) (woff h rfl rfl rfl (by decide)) fun a h => ?_
    refine q_off h rfl (by decide) (woff h rfl rfl rfl (by decide)) fun a h => ?_
    refine q_off h rfl (by decide) (woff h rfl rfl rfl (by decide)) fun a h => ?_
    refine q_step h rfl (by decide) (wanted_none rfl) (fun w hw => x_pick_f rfl rfl rfl) fun a h => ?_
    refine q_step h rfl (by decide) (wanted_none rfl) (fun w hw => x_assign rfl) fun a h => ?_
    intro w2 hw2
    show Code.wp _ _ _ _ _
    refine wp_ret ?_
    refine ret_slot h rfl (by decide) rfl ⟨?_, hB.trans ((quiet_below hw2).mono hB.size)⟩
    rw [leftB, Bool.eq_false_iff.2 c1, Bool.false_and]
/-! #### the names of points -/
def dotCells : Array Value := #[.string ⟨#[46]⟩, .string ⟨#[239, 188, 142]⟩, .string ⟨#[46, 46]⟩, .string ⟨#[239, 188, 142, 239, 188, 142]⟩, .string ⟨#[239, 188, 142]⟩, .string ⟨#[226, 128, 155, 239, 188, 142]⟩, .string ⟨#[239, 188, 142, 239, 188, 142]⟩, .string ⟨#[226, 128, 155, 239, 188, 142, 226, 128, 155, 239, 188, 142]⟩]
theorem dots_any (w : World) : Calls Tryd.prog 31 #[] w fun e w' => e = .returned (.slice (some ⟨w.heap.size, 0, none⟩) 4 4) ∧ w'.heap[w.heap.size]? = some (.cells dotCells 42 (0, 0)) ∧ Below w.heap.size w w' := by
  go_enter Tryd.func31, Tryd.ntmps31
  go_wp2
  go_ret
  exact ⟨rfl, heap_alloc_new w _, (Below.refl _ w).alloc (Nat.le_refl _) _⟩

/-! #### what it tells, in plain Lean -/
def headS (m : Int) (L : List S37) : ByteArray × List S37 :=
  if leftB m (rd_T37 L (0 : Nat)).f1 = true then (Utf8.encode (signOf (rd_T37 L (0 : Nat)).f1), L.drop 1)
  else if 1 < L.length ∧ (rd_T37 L (0 : Nat)).f1 = 8219 ∧ leftB m (rd_T37 L (1 : Nat)).f1 = true then ((rd_T37 L (1 : Nat)).f0, L.drop 2)
  else (⟨#[]⟩, L)
def rightB (m c : Int) : Bool := decide (0 ≤ signOf c) && takesR m (signOf c)
def tailS (m : Int) (L : List S37) : ByteArray × List S37 :=
  if 0 < L.length ∧ rightB m (rd_T37 L ((L.length - 1 : Nat) : Int)).f1 = true then
    (if 1 < L.length ∧ (rd_T37 L ((L.length - 2 : Nat) : Int)).f1 = 8219 then ((rd_T37 L ((L.length - 1 : Nat) : Int)).f0, L.take (L.length - 2))
     else (Utf8.encode (signOf (rd_T37 L ((L.length - 1 : Nat) : Int)).f1), L.take (L.length - 1)))
  else (⟨#[]⟩, L)
def stepS (m : Int) (L : List S37) : ByteArray × Nat :=
  if (rd_T37 L (0 : Nat)).f1 = 8219 then ((unq m L).1, (unq m L).2.toNat)
  else if 0 ≤ signOf (rd_T37 L (0 : Nat)).f1 ∧ takes m (signOf (rd_T37 L (0 : Nat)).f1) = true then (Utf8.encode (signOf (rd_T37 L (0 : Nat)).f1), 1)
  else ((rd_T37 L (0 : Nat)).f0, 1)
def loopS (m : Int) : Nat → List S37 → List UInt8
  | 0, _ => []
  | f + 1, L => if L = [] then [] else (stepS m L).1.data.toList ++ loopS m f (L.drop (stepS m L).2)
theorem unq_le (m : Int) (L : List S37) (h : 0 < L.length) : 1 ≤ (unq m L).2 ∧ (unq m L).2 ≤ L.length := by
  unfold unq
  split
  · rename_i hh; simp only; omega
  · split
    · rename_i hh; simp only; omega
    · simp only; omega
theorem step_le (m : Int) (L : List S37) (h : 0 < L.length) : 1 ≤ (stepS m L).2 ∧ (stepS m L).2 ≤ L.length := by
  unfold stepS
  have := unq_le m L h
  split
  · simp only; omega
  · split <;> (simp only; omega)
theorem encode_size (c : Int) : (Utf8.encode c).size ≤ 4 := by
  dsimp only [Utf8.encode]
  repeat' split
  all_goals exact Nat.le_of_ble_eq_true rfl
theorem rd_mem (L : List S37) (k : Nat) (h : k < L.length) : rd_T37 L (k : Int) ∈ L := by
  unfold rd_T37
  rw [Int.toNat_natCast, List.getD_eq_getElem?_getD, List.getElem?_eq_getElem h]
  exact List.getElem_mem h
theorem step_size (m : Int) (L : List S37) (h : 0 < L.length) (hs : ∀ u ∈ L, u.f0.size ≤ 8) : (stepS m L).1.size ≤ 8 := by
  have hu : (unq m L).1.size ≤ 8 := by
    unfold unq
    split
    · rename_i hh; exact hs _ (rd_mem L 1 hh.1)
    · split
      · exact (by decide : 1 ≤ 8)
      · exact hs _ (rd_mem L 0 h)
  unfold stepS
  split
  · exact hu
  · split
    · exact Nat.le_trans (encode_size _) (by decide)
    · exact hs _ (rd_mem L 0 h)
theorem loop_fuel (m : Int) : ∀ (f g : Nat) (L : List S37), L.length ≤ f → L.length ≤ g → loopS m f L = loopS m g L
  | 0, 0, _, _, _ => rfl
  | 0, g + 1, L, h, _ => by have : L = [] := List.length_eq_zero_iff.1 (by omega); rw [loopS, loopS, if_pos this]
  | f + 1, 0, L, _, h => by have : L = [] := List.length_eq_zero_iff.1 (by omega); rw [loopS, loopS, if_pos this]
  | f + 1, g + 1, L, hf, hg => by
    rw [loopS, loopS]
    split
    · rfl
    · rename_i hne
      have h0 : 0 < L.length := List.length_pos_iff.2 hne
      have := step_le m L h0
      rw [loop_fuel m f g _ (by rw [List.length_drop]; omega) (by rw [List.length_drop]; omega)]
theorem loop_cons (m : Int) (L : List S37) (h : 0 < L.length) : loopS m L.length L = (stepS m L).1.data.toList ++ loopS m (L.drop (stepS m L).2).length (L.drop (stepS m L).2) := by
  obtain ⟨n, hn⟩ : ∃ n, L.length = n + 1 := ⟨L.length - 1, by omega⟩
  have := step_le m L h
  rw [hn, loopS, if_neg (by rintro rfl; simp at h), loop_fuel m n _ (L.drop _) (by rw [List.length_drop]; omega) (Nat.le_refl _)]
/-! #### the loop, and what is behind it -/
theorem inf5 : (Tryd.prog.info? 5).map (fun i => (i.zero, i.size, i.bytes)) = some (some (.int .u8 0), 1, 1) := by kernel_rfl
theorem app_any (w : World) (base : Nat) {v : Value} {xs : List UInt8} (h : OB w base v xs) (s : ByteArray) (hl : xs.length + s.size ≤ 140737488355328) (hbase : base ≤ w.heap.size) :
    ∃ v' w', (Builtin.append_ #[28, 9] 28 #[v, .string s]).run Tryd.prog w = .ok v' w' ∧ OB w' base v' (xs ++ s.data.toList) ∧ w.grownBy w' v.ownBlock := by
  have hi := inf5
  cases e : Tryd.prog.info? 5 with
  | none => rw [e] at hi; cases hi
  | some i =>
    rw [e] at hi
    simp only [Option.map_some, Option.some.injEq, Prod.mk.injEq] at hi
    exact run_app_str w base 28 9 28 i Tryd.underlying28 Tryd.underlying9 e hi.1 hi.2.1 hi.2.2 h s hl hbase
theorem at_natCast (x y : Nat) (h : x = y) : ((x : Nat) : Int) = (y : Int) := by rw [h]

/-- A round's end: the text is laid behind what is written, the units are passed over. -/
theorem r28 {Q : Exit → Act → World → Prop} {a : Act} {W : World} {ad : Addr} {n c k b0 base : Nat} {v : Value} {xs : List UInt8} {tl tx : ByteArray}
    (h : Fm 186 [(2, .pointer (some ⟨b0, 0, none⟩)), (7, .slice (some ad) n c), (9, .string tl), (12, v), (13, .string tx), (14, .int .i64 (k : Int))] a)
    (hO : OB W base v xs) (hbase : base ≤ W.heap.size) (hlen : xs.length ≤ 10000000) (hk : k ≤ n) (htx : tx.size ≤ 8)
    (Hn : ∀ a' W' v', Fm 186 [(2, .pointer (some ⟨b0, 0, none⟩)), (7, .slice (if c = k then some ad else (some ad).map (·.add (k * 3))) (n - k) (c - k)), (9, .string tl), (12, v')] a' → OB W' base v' (xs ++ tx.data.toList) → (∀ wB, Below base wB W → Below base wB W') → Q .normal a' W') :
    (piece [1, 1, 1, 1, 1, 1, 1, 1, 0, 0, 0, 1, 0, 1, 1] (Tryd.f17.body.getD .skip)).wp Tryd.prog Q a W := by
  conv => arg 2; whnf
  have hq : Below W.heap.size W { W with drawn := W.drawn + 1 } := ⟨rfl, rfl, rfl, Nat.le_refl _, fun _ _ => rfl⟩
  have hO1 := hO.below hq
  obtain ⟨v2, W2, hr2, hO2, hg2⟩ := app_any { W with drawn := W.drawn + 1 } base hO1 tx (by omega) (Nat.le_trans hbase hq.size)
  refine wp_region_noPanic (wp_region_any (by kernel_rfl) ?_)
  show wpAny _ _ _ _ (7 + 1) _ _ _
  refine a_take (i := 0) h rfl rfl (by decide) (wanted_none rfl) (by kernel_rfl) (by kernel_rfl) (by kernel_rfl) (fun w => x_move rfl) fun a h => ?_
  refine a_take (i := 1) h rfl rfl (by decide) (wanted_none rfl) (by kernel_rfl) (by kernel_rfl) (by kernel_rfl) (fun w => x_move rfl) fun a h => ?_
  refine a_take (i := 3) h rfl rfl (by decide) (wanted_none rfl) (by kernel_rfl) (by kernel_rfl) (by kernel_rfl) (fun w => x_move rfl) fun a h => ?_
  refine a_take (i := 4) h rfl rfl (by decide) (wanted_none rfl) (by kernel_rfl) (by kernel_rfl) (by kernel_rfl) (fun w => x_move rfl) fun a h => ?_
  refine a_take (i := 5) h rfl rfl (by decide) (wanted_none rfl) (by kernel_rfl) (by kernel_rfl) (by kernel_rfl) (fun w => x_from34 rfl rfl hk) fun a h => ?_
  refine a_one (i := 2) h rfl rfl (by decide) (wanted_none rfl) (by kernel_rfl) (x_append rfl rfl hr2) fun a h => ?_
  refine a_take (i := 6) h rfl rfl (by decide) (wanted_none rfl) (by kernel_rfl) (by kernel_rfl) (by kernel_rfl) (fun w => x_assign rfl) fun a h => ?_
  refine a_take (i := 7) h rfl rfl (by decide) (wanted_none rfl) (by kernel_rfl) (by kernel_rfl) (by kernel_rfl) (fun w => x_assign rfl) fun a h => ?_
  refine wpAny_done (by kernel_rfl) ?_ _
  replace h := h.pick [2, 7, 9, 12] rfl
  exact Hn _ _ _ h hO2 fun wB hb => (hb.trans (hq.mono hbase)).grown hg2 (Nat.le_trans hbase hq.size) (fun k hk => hO1.base k hk)

set_option maxRecDepth 100000 in
set_option maxHeartbeats 4000000 in
theorem loop_walk {R : Ending → World → Prop} {a : Act} {w0 w : World} {m : Int} {A : Option Addr} {c : Nat} {L : List S37} {hd tl : ByteArray}
    (h : Fm 186 [(2, .pointer (some ⟨w0.heap.size, 0, none⟩)), (7, .slice A L.length c), (8, .string hd), (9, .string tl)] a)
    (hm : w.heap[w0.heap.size]? = some (.cells #[.int .u64 m] 22 (0, 0))) (hC : Kd.C k37 w A L.length L) (hcap : L.length ≤ c) (hB : Below w0.heap.size w0 w)
    (hhd : hd.size ≤ 1000) (htl : tl.size ≤ 1000) (hs : ∀ u ∈ L, u.f0.size ≤ 8) (hn : L.length ≤ 1000000)
    (H : ∀ w', Below w0.heap.size w0 w' → R (.returned (.string ⟨(hd.data.toList ++ loopS m L.length L ++ tl.data.toList).toArray⟩)) w') :
    (piece [1, 1, 1, 1, 1, 1, 1] (Tryd.f17.body.getD .skip)).wp Tryd.prog (bodyPost Tryd.prog Tryd.f17 R) a w := by
  conv => arg 2; whnf
  have hlt := (Array.getElem?_eq_some_iff.1 hm).1
  refine wp_seq ?_
  refine wp_region_lit ?_
  refine Sym.step h rfl (by decide) (wanted_none rfl) (x_move rfl) fun a h => ?_
  obtain ⟨hO, hBw⟩ := OB.conv w hd (by have : maxLen = 9223372036854775807 := rfl; omega)
  refine Sym.step h rfl (by decide) (wanted_none rfl) (x_conv rfl (Lib.run_convert_string_bytes w 9 28 5 hd Tryd.underlying9 Tryd.underlying28 Tryd.underlying5)) fun a h => ?_
  generalize (Value.slice (some ⟨w.heap.size, 0, none⟩) hd.size (grownCap w hd.size 0 5)) = v0 at h hO
  generalize Lib.bytesWorld w 5 hd = w1 at hO hBw
  refine Sym.step h rfl (by decide) (wanted_none rfl) (x_assign rfl) fun a h => ?_
  refine wpList_nil ?_
  show Code.wp _ _ _ _ _
  replace h := h.pick [2, 7, 9, 12] rfl
  refine wp_seq ?_
  refine wp_block ?_
  obtain ⟨tot, htot⟩ : ∃ tot, hd.data.toList ++ loopS m L.length L = tot := ⟨_, rfl⟩
  rw [htot] at H
  refine wp_loop_ghost (fun n a' W => ∃ A c L v xs, n = L.length ∧ Fm 186 [(2, .pointer (some ⟨w0.heap.size, 0, none⟩)), (7, .slice A L.length c), (9, .string tl), (12, v)] a' ∧ Kd.C k37 w A L.length L ∧ L.length ≤ c ∧ OB W w.heap.size v xs ∧ Below w.heap.size w W ∧ xs ++ loopS m L.length L = tot ∧ xs.length + 8 * L.length ≤ 10000000 ∧ (∀ u ∈ L, u.f0.size ≤ 8)) L.length ⟨A, c, L, v0, hd.data.toList, rfl, by exact h, hC, hcap, hO, hBw, htot, by have : hd.data.toList.length = hd.size := rfl; omega, hs⟩ ?_
  clear hC hcap hO hBw htot hs hn hhd
  rintro n a1 W ⟨A, c, L, v, xs, rfl, h, hC, hcap, hO, hBw, htot, hlen, hs⟩
  have hmW : W.heap[w0.heap.size]? = some (.cells #[.int .u64 m] 22 (0, 0)) := (hBw.block _ hlt).trans hm
  have hmc : W.cell? ⟨w0.heap.size, 0, none⟩ = some (.int .u64 m) := by simp [World.cell?, hmW]
  have hCW : Kd.C k37 W A L.length L := Kd.C_below hC hBw
  refine wp_seq ?_
  refine wp_seq ?_
  refine wp_region_lit ?_
  by_cases h0 : decide ((0 : Int) < (L.length : Int)) = true
  case neg =>
    refine Sym.step h rfl (by decide) (wanted_none rfl) (x_move rfl) fun a h => ?_
    refine Sym.step h rfl (by decide) (wanted_none rfl) (x_lenr Tryd.underlying34 rfl) fun a h => ?_
    refine Sym.step h rfl (by decide) (wanted_none rfl) (Ex.to (x_gtri Tryd.underlying3 rfl rfl) (congrArg Value.bool (Bool.eq_false_iff.2 h0))) fun a h => ?_
    refine wpList_nil ?_
    show Code.wp _ _ _ _ _
    refine wp_cond_false (h.slot 144 _ rfl) (wp_exit ?_)
    show Code.wp _ _ _ _ _
    have hL : L = [] := by
      cases L with
      | nil => rfl
      | cons x y => exact absurd (decide_eq_true (by simp only [List.length_cons]; omega)) h0
    subst hL
    rw [show loopS m ([] : List S37).length [] = [] from rfl, List.append_nil] at htot
    subst htot
    refine wp_seq ?_
    refine wp_region_lit ?_
    refine Sym.step h rfl (by decide) (wanted_none rfl) (x_move rfl) fun a h => ?_
    refine Sym.step h rfl (by decide) (wanted_none rfl) (x_move rfl) fun a h => ?_
    obtain ⟨v2, W2, hr2, hO2, hg2⟩ := app_any W w.heap.size hO tl (by simp only [List.length_nil] at hlen; omega) hBw.size
    refine Sym.step h rfl (by decide) (wanted_none rfl) (x_append rfl rfl hr2) fun a h => ?_
    refine Sym.step h rfl (by decide) (wanted_none rfl) (x_conv rfl (run_text W2 hO2 28 9 Tryd.underlying28 Tryd.underlying5 Tryd.underlying9)) fun a h => ?_
    refine Sym.step h rfl (by decide) (wanted_none rfl) (x_assign rfl) fun a h => ?_
    refine wpList_nil ?_
    show Code.wp _ _ _ _ _
    refine wp_ret ?_
    have hB2 : Below w.heap.size w W2 := hBw.grown hg2 hBw.size (fun k hk => hO.base k hk)
    exact ret_slot h rfl (by decide) rfl (H W2 (hB.trans (hB2.mono hB.size)))
  have hpos : 0 < L.length := by have := of_decide_eq_true h0; omega
  refine Sym.step h rfl (by decide) (wanted_none rfl) (x_move rfl) fun a h => ?_
  refine Sym.step h rfl (by decide) (wanted_none rfl) (x_lenr Tryd.underlying34 rfl) fun a h => ?_
  refine Sym.step h rfl (by decide) (wanted_none rfl) (Ex.to (x_gtri Tryd.underlying3 rfl rfl) (congrArg Value.bool h0)) fun a h => ?_
  refine wpList_nil ?_
  show Code.wp _ _ _ _ _
  refine wp_cond_true (h.slot 144 _ rfl) (wp_skip ?_)
  show Code.wp _ _ _ _ _
  replace h := h.pick [2, 7, 9, 12] rfl
  obtain ⟨ad, hA, c0, c1, c2⟩ := cells37 hCW hpos
  subst hA
  refine wp_block ?_
  refine wp_seq ?_
  refine wp_region_lit ?_
  refine Sym.step h rfl (by decide) (wanted_none rfl) (x_move rfl) fun a h => ?_
  refine Sym.step h rfl (by decide) (wanted_none rfl) (x_el37 rfl rfl hpos) fun a h => ?_
  refine Sym.step h rfl (by decide) (wanted_none rfl) (x_field37 0 (by decide) rfl) fun a h => ?_
  refine Sym.step h rfl (by decide) (wanted_none rfl) (x_loads Tryd.underlying9 rfl c0) fun a h => ?_
  refine Sym.step h rfl (by decide) (wanted_none rfl) (x_assign rfl) fun a h => ?_
  refine Sym.step h rfl (by decide) (wanted_none rfl) (x_assign rfl) fun a h => ?_
  refine wpList_nil ?_
  show Code.wp _ _ _ _ _
  refine wp_seq ?_
  refine wp_seq ?_
  refine wp_region_lit ?_
  refine Sym.step h rfl (by decide) (wanted_none rfl) (x_move rfl) fun a h => ?_
  refine Sym.step h rfl (by decide) (wanted_none rfl) (x_el37 rfl rfl hpos) fun a h => ?_
  refine Sym.step h rfl (by decide) (wanted_none rfl) (x_field37 1 (by decide) rfl) fun a h => ?_
  refine Sym.step h rfl (by decide) (wanted_none rfl) (x_loadi Tryd.underlying21 rfl c1) fun a h => ?_
  refine Sym.call h rfl (by decide) (wanted_none rfl) rfl enters33 (fun a h => map1 h rfl) ?_
  refine (signOf_any _ W).mono ?_
  rintro e W1 ⟨rfl, hq⟩
  refine ⟨_, rfl, fun a h => ?_⟩
  refine Sym.step h rfl (by decide) (wanted_none rfl) (x_assign rfl) fun a h => ?_
  refine wpList_nil ?_
  show Code.wp _ _ _ _ _
  have hb1 := quiet_below hq
  have hmc1 : W1.cell? ⟨w0.heap.size, 0, none⟩ = some (.int .u64 m) := q_cell hq hmc
  replace c1 := q_cell hq c1
  replace hBw := hBw.trans (hb1.mono hBw.size)
  replace hO := hO.below hb1
  replace hCW := Kd.C_below hCW hb1
  clear hq hb1 c0 c2 hmW hmc
  replace h := h.pick [2, 7, 9, 12, 13, 14, 15] rfl
  refine Code.wp_mono (Q := fun e a' W' => e = .normal ∧ Fm 186 [(2, .pointer (some ⟨w0.heap.size, 0, none⟩)), (7, .slice (some ad) L.length c), (9, .string tl), (12, v), (13, .string (stepS m L).1), (14, .int .i64 ((stepS m L).2 : Int))] a' ∧ OB W' w.heap.size v xs ∧ Below w.heap.size w W') ?_ ?_
  · rintro e a2 W2 ⟨rfl, h2, hO2, hB2⟩
    obtain ⟨k1, k2⟩ := step_le m L hpos
    have ksz := step_size m L hpos hs
    show Code.wp _ _ _ a2 W2
    refine r28 h2 hO2 hB2.size (by omega) k2 ksz fun a3 W3 v3 h3 hO3 hg3 => ?_
    refine ⟨(L.drop (stepS m L).2).length, by rw [List.length_drop]; omega, _, _, L.drop (stepS m L).2, v3, xs ++ (stepS m L).1.data.toList, rfl, by rw [List.length_drop]; exact h3, C_drop hC hcap k2, by rw [List.length_drop]; omega, hO3, ?_, ?_, ?_, ?_⟩
    · exact hg3 _ hB2
    · rw [← htot, loop_cons m L hpos, List.append_assoc]
    · have : (stepS m L).1.data.toList.length = (stepS m L).1.size := rfl
      rw [List.length_append, List.length_drop]; omega
    · intro u hu
      exact hs u (List.mem_of_mem_drop hu)
  · refine wp_block ?_
    refine wp_seq ?_
    refine wp_region_lit ?_
    by_cases hq8 : ((rd_T37 L (0 : Nat)).f1 == 8219) = true
    case pos =>
      refine Sym.step h rfl (by decide) (wanted_none rfl) (x_move rfl) fun a h => ?_
      refine Sym.step h rfl (by decide) (wanted_none rfl) (x_el37 rfl rfl hpos) fun a h => ?_
      refine Sym.step h rfl (by decide) (wanted_none rfl) (x_field37 1 (by decide) rfl) fun a h => ?_
      refine Sym.step h rfl (by decide) (wanted_none rfl) (x_loadi Tryd.underlying21 rfl c1) fun a h => ?_
      refine Sym.step h rfl (by decide) (wanted_none rfl) (Ex.to (x_eqli Tryd.underlying21 rfl rfl) (congrArg Value.bool hq8)) fun a h => ?_
      refine Sym.step h rfl (by decide) (wanted_none rfl) (x_assign rfl) fun a h => ?_
      refine wpList_nil ?_
      show Code.wp _ _ _ _ _
      refine wp_cond_true (h.slot 154 _ rfl) ?_
      refine wp_region_lit ?_
      refine Sym.step h rfl (by decide) (wanted_none rfl) (x_loadi Tryd.underlying22 rfl hmc1) fun a h => ?_
      refine Sym.step h rfl (by decide) (wanted_none rfl) (x_move rfl) fun a h => ?_
      refine Sym.call h rfl (by decide) (wanted_none rfl) rfl enters34 (fun a h => map2 h rfl rfl) ?_
      refine (unq_any m (some ad) c L W1 hCW hcap hpos).mono ?_
      rintro e W2 ⟨rfl, hb2⟩
      refine ⟨_, rfl, fun a h => ?_⟩
      refine Sym.step h rfl (by decide) (wanted_none rfl) (x_move rfl) fun a h => ?_
      refine Sym.step h rfl (by decide) (wanted_none rfl) (x_extract rfl rfl) fun a h => ?_
      refine Sym.step h rfl (by decide) (wanted_none rfl) (x_extract rfl rfl) fun a h => ?_
      refine Sym.step h rfl (by decide) (wanted_none rfl) (x_assign rfl) fun a h => ?_
      refine Sym.step h rfl (by decide) (wanted_none rfl) (x_assign rfl) fun a h => ?_
      refine wpList_nil ?_
      replace h := h.pick [2, 7, 9, 12, 13, 14] rfl
      have e : stepS m L = ((unq m L).1, (unq m L).2.toNat) := by rw [stepS, if_pos (by simpa using hq8)]
      have hu := unq_le m L hpos
      refine (show Exit.inBlock 5 _ .normal _ _ from ⟨rfl, ?_, hO.below hb2, hBw.trans (hb2.mono hBw.size)⟩)
      rw [e]
      simp only
      rw [show (((unq m L).2.toNat : Nat) : Int) = (unq m L).2 from by omega]
      exact h
    case neg =>
      refine Sym.step h rfl (by decide) (wanted_none rfl) (x_move rfl) fun a h => ?_
      refine Sym.step h rfl (by decide) (wanted_none rfl) (x_el37 rfl rfl hpos) fun a h => ?_
      refine Sym.step h rfl (by decide) (wanted_none rfl) (x_field37 1 (by decide) rfl) fun a h => ?_
      refine Sym.step h rfl (by decide) (wanted_none rfl) (x_loadi Tryd.underlying21 rfl c1) fun a h => ?_
      refine Sym.step h rfl (by decide) (wanted_none rfl) (Ex.to (x_eqli Tryd.underlying21 rfl rfl) (congrArg Value.bool (Bool.eq_false_iff.2 hq8))) fun a h => ?_
      refine Sym.step h rfl (by decide) (wanted_none rfl) (x_assign rfl) fun a h => ?_
      have hq9 : ¬ (rd_T37 L (0 : Nat)).f1 = 8219 := by simpa using hq8
      refine wpList_nil ?_
      show Code.wp _ _ _ _ _
      refine wp_cond_false (h.slot 154 _ rfl) ?_
      refine wp_seq ?_
      refine wp_region_lit ?_
      by_cases hg : decide ((0 : Int) ≤ signOf (rd_T37 L (0 : Nat)).f1) = true
      case neg =>
        refine Sym.step h rfl (by decide) (wanted_none rfl) (x_move rfl) fun a h => ?_
        refine Sym.step h rfl (by decide) (wanted_none rfl) (Ex.to (x_geqi Tryd.underlying21 rfl rfl) (congrArg Value.bool (Bool.eq_false_iff.2 hg))) fun a h => ?_
        refine Sym.step h rfl (by decide) (wanted_none rfl) (x_move rfl) fun a h => ?_
        refine Sym.off h rfl (by decide) (woff h rfl rfl rfl (by decide)) fun a h => ?_
        refine Sym.off h rfl (by decide) (woff h rfl rfl rfl (by decide)) fun a h => ?_
        refine Sym.off h rfl (by decide) (woff h rfl rfl rfl (by decide)) fun a h => ?_
        refine Sym.step h rfl (by decide) (wanted_none rfl) (x_pick_f rfl rfl rfl) fun a h => ?_
        refine Sym.step h rfl (by decide) (wanted_none rfl) (x_assign rfl) fun a h => ?_
        refine wpList_nil ?_
        show Code.wp _ _ _ _ _
        refine wp_cond_false (h.slot 166 _ rfl) (wp_skip ?_)
        replace h := h.pick [2, 7, 9, 12, 13, 14] rfl
        have e : stepS m L = ((rd_T37 L (0 : Nat)).f0, 1) := by rw [stepS, if_neg hq9, if_neg (fun hh => hg (decide_eq_true hh.1))]
        refine (show Exit.inBlock 5 _ .normal _ _ from ⟨rfl, ?_, hO, hBw⟩)
        rw [e]
        exact h
      case pos =>
        have HT := takes_any m (signOf (rd_T37 L (0 : Nat)).f1) W1
        obtain ⟨b, hb⟩ : ∃ b, takes m (signOf (rd_T37 L (0 : Nat)).f1) = b := ⟨_, rfl⟩
        rw [hb] at HT
        cases b with
        | false =>
          refine Sym.step h rfl (by decide) (wanted_none rfl) (x_move rfl) fun a h => ?_
          refine Sym.step h rfl (by decide) (wanted_none rfl) (Ex.to (x_geqi Tryd.underlying21 rfl rfl) (congrArg Value.bool hg)) fun a h => ?_
          refine Sym.step h rfl (by decide) (wanted_none rfl) (x_move rfl) fun a h => ?_
          refine Sym.step h rfl (by decide) (won h rfl rfl rfl (by decide)) (x_loadi Tryd.underlying22 rfl hmc1) fun a h => ?_
          refine Sym.step h rfl (by decide) (won h rfl rfl rfl (by decide)) (x_move rfl) fun a h => ?_
          refine Sym.call h rfl (by decide) (won h rfl rfl rfl (by decide)) rfl enters26 (fun a h => map2 h rfl rfl) ?_
          refine HT.mono ?_
          rintro e W2 ⟨rfl, hb2⟩
          replace hb2 := quiet_below hb2
          refine ⟨_, rfl, fun a h => ?_⟩
          refine Sym.step h rfl (by decide) (wanted_none rfl) (x_pick_t rfl rfl rfl) fun a h => ?_
          refine Sym.step h rfl (by decide) (wanted_none rfl) (x_assign rfl) fun a h => ?_
          refine wpList_nil ?_
          show Code.wp _ _ _ _ _
          refine wp_cond_false (h.slot 166 _ rfl) (wp_skip ?_)
          replace h := h.pick [2, 7, 9, 12, 13, 14] rfl
          have e : stepS m L = ((rd_T37 L (0 : Nat)).f0, 1) := by rw [stepS, if_neg hq9, if_neg (fun hh => by rw [hb] at hh; cases hh.2)]
          refine (show Exit.inBlock 5 _ .normal _ _ from ⟨rfl, ?_, hO.below hb2, hBw.trans (hb2.mono hBw.size)⟩)
          rw [e]
          exact h
        | true =>
          refine Sym.step h rfl (by decide) (wanted_none rfl) (x_move rfl) fun a h => ?_
          refine Sym.step h rfl (by decide) (wanted_none rfl) (Ex.to (x_geqi Tryd.underlying21 rfl rfl) (congrArg Value.bool hg)) fun a h => ?_
          refine Sym.step h rfl (by decide) (wanted_none rfl) (x_move rfl) fun a h => ?_
          refine Sym.step h rfl (by decide) (won h rfl rfl rfl (by decide)) (x_loadi Tryd.underlying22 rfl hmc1) fun a h => ?_
          refine Sym.step h rfl (by decide) (won h rfl rfl rfl (by decide)) (x_move rfl) fun a h => ?_
          refine Sym.call h rfl (by decide) (won h rfl rfl rfl (by decide)) rfl enters26 (fun a h => map2 h rfl rfl) ?_
          refine HT.mono ?_
          rintro e W2 ⟨rfl, hb2⟩
          replace hb2 := quiet_below hb2
          refine ⟨_, rfl, fun a h => ?_⟩
          refine Sym.step h rfl (by decide) (wanted_none rfl) (x_pick_t rfl rfl rfl) fun a h => ?_
          refine Sym.step h rfl (by decide) (wanted_none rfl) (x_assign rfl) fun a h => ?_
          refine wpList_nil ?_
          show Code.wp _ _ _ _ _
          refine wp_cond_true (h.slot 166 _ rfl) ?_
          refine wp_region_lit ?_
          refine Sym.step h rfl (by decide) (wanted_none rfl) (x_move rfl) fun a h => ?_
          refine Sym.step h rfl (by decide) (wanted_none rfl) (x_rune Tryd.underlying21 Tryd.underlying9 rfl) fun a h => ?_
          refine Sym.step h rfl (by decide) (wanted_none rfl) (x_assign rfl) fun a h => ?_
          refine wpList_nil ?_
          replace h := h.pick [2, 7, 9, 12, 13, 14] rfl
          have e : stepS m L = (Utf8.encode (signOf (rd_T37 L (0 : Nat)).f1), 1) := by rw [stepS, if_neg hq9, if_pos ⟨of_decide_eq_true hg, hb⟩]
          refine (show Exit.inBlock 5 _ .normal _ _ from ⟨rfl, ?_, hO.below hb2, hBw.trans (hb2.mono hBw.size)⟩)
          rw [e]
          exact h

/-! #### the tail -/
theorem sub_nat (n k : Nat) (h : k ≤ n) : IntKind.i64.wrap ((n : Int) - (k : Int)) = ((n - k : Nat) : Int) → True := fun _ => trivial
theorem wrap_sub1 (n k : Nat) (h : k ≤ n) (hn : n ≤ 9223372036854775807) : IntKind.i64.wrap ((n : Int) - (k : Int)) = ((n - k : Nat) : Int) := by
  rw [IntKind.wrap_i64]; omega
set_option maxRecDepth 100000 in
set_option maxHeartbeats 4000000 in
theorem tail_walk {R : Ending → World → Prop} {a : Act} {w0 w : World} {m : Int} {A : Option Addr} {c : Nat} {L : List S37} {hd : ByteArray}
    (h : Fm 186 [(2, .pointer (some ⟨w0.heap.size, 0, none⟩)), (7, .slice A L.length c), (8, .string hd), (9, .string ⟨#[]⟩)] a)
    (hm : w.heap[w0.heap.size]? = some (.cells #[.int .u64 m] 22 (0, 0))) (hC : Kd.C k37 w A L.length L) (hcap : L.length ≤ c) (hB : Below w0.heap.size w0 w)
    (hhd : hd.size ≤ 1000) (hs : ∀ u ∈ L, u.f0.size ≤ 8) (hn : L.length ≤ 1000000)
    (H : ∀ w', Below w0.heap.size w0 w' → R (.returned (.string ⟨(hd.data.toList ++ loopS m (tailS m L).2.length (tailS m L).2 ++ (tailS m L).1.data.toList).toArray⟩)) w') :
    (piece [1, 1, 1, 1, 1, 1] (Tryd.f17.body.getD .skip)).wp Tryd.prog (bodyPost Tryd.prog Tryd.f17 R) a w := by
  conv => arg 2; whnf
  have hmc : w.cell? ⟨w0.heap.size, 0, none⟩ = some (.int .u64 m) := by simp [World.cell?, hm]
  have move : ∀ {w'}, (∃ n, w' = w.drewN n) → w'.heap[w0.heap.size]? = some (.cells #[.int .u64 m] 22 (0, 0)) ∧ Kd.C k37 w' A L.length L ∧ Below w0.heap.size w0 w' := by
    rintro w' ⟨n, rfl⟩
    exact ⟨hm, hC, hB.trans ((quiet_below ⟨n, rfl⟩).mono hB.size)⟩
  refine wp_seq ?_
  refine wp_seq ?_
  refine wp_region_lit ?_
  refine Sym.step h rfl (by decide) (wanted_none rfl) (x_move rfl) fun a h => ?_
  refine Sym.step h rfl (by decide) (wanted_none rfl) (x_lenr Tryd.underlying34 rfl) fun a h => ?_
  refine Sym.step h rfl (by decide) (wanted_none rfl) (x_assign rfl) fun a h => ?_
  refine wpList_nil ?_
  show Code.wp _ _ _ _ _
  replace h := h.pick [2, 7, 8, 9, 11] rfl
  refine wp_seq ?_
  have hn2 : ∀ (hn' : ¬ (0 < L.length ∧ rightB m (rd_T37 L ((L.length - 1 : Nat) : Int)).f1 = true)) a' w', Fm 186 [(2, .pointer (some ⟨w0.heap.size, 0, none⟩)), (7, .slice A L.length c), (8, .string hd), (9, .string ⟨#[]⟩)] a' → (∃ n, w' = w.drewN n) →
      (piece [1, 1, 1, 1, 1, 1, 1] (Tryd.f17.body.getD .skip)).wp Tryd.prog (bodyPost Tryd.prog Tryd.f17 R) a' w' := by
    intro hn' a' w' h' hq
    obtain ⟨m1, m2, m3⟩ := move hq
    refine loop_walk h' m1 m2 hcap m3 hhd (by decide) hs hn ?_
    have e : tailS m L = (⟨#[]⟩, L) := by rw [tailS, if_neg hn']
    rw [e] at H
    exact H
  refine wp_region_quiet_lit (by kernel_rfl) (by kernel_rfl) ?_
  by_cases h0 : decide ((0 : Int) < (L.length : Int)) = true
  case neg =>
    refine q_step h rfl (by decide) (wanted_none rfl) (fun w hw => x_move rfl) fun a h => ?_
    refine q_step h rfl (by decide) (wanted_none rfl) (fun w hw => Ex.to (x_gtri Tryd.underlying3 rfl rfl) (congrArg Value.bool (Bool.eq_false_iff.2 h0))) fun a h => ?_
    refine q_step h rfl (by decide) (wanted_none rfl) (fun w hw => x_move rfl) fun a h => ?_
    refine q_off h rfl (by decide) (woff h rfl rfl rfl (by decide)) fun a h => ?_
    refine q_off h rfl (by decide) (woff h rfl rfl rfl (by decide)) fun a h => ?_
    refine q_off h rfl (by decide) (woff h rfl rfl rfl (by decide)) fun a h => ?_
    refine q_off h rfl (by decide) (woff h rfl rfl rfl (by decide)) fun a h => ?_
    refine q_off h rfl (by decide) (woff h rfl rfl rfl (by decide)) fun a h => ?_
    refine q_off h rfl (by decide) (woff h rfl rfl rfl (by decide)) fun a h => ?_
    refine q_off h rfl (by decide) (woff h rfl rfl rfl (by decide)) fun a h => ?_
    refine q_off h rfl (by decide) (woff h rfl rfl rfl (by decide)) fun a h => ?_
    refine q_step h rfl (by decide) (wanted_none rfl) (fun w hw => x_pick_f rfl rfl rfl) fun a h => ?_
    refine q_step h rfl (by decide) (wanted_none rfl) (fun w hw => x_move rfl) fun a h => ?_
    refine q_off h rfl (by decide) (woff h rfl rfl rfl (by decide)) fun a h => ?_
    refine q_off h rfl (by decide) (woff h rfl rfl rfl (by decide)) fun a h => ?_
    refine q_off h rfl (by decide) (woff h rfl rfl rfl (by decide)) fun a h => ?_
    refine q_off h rfl (by decide) (woff h rfl rfl rfl (by decide)) fun a h => ?_
    refine q_off h rfl (by decide) (woff h rfl rfl rfl (by decide)) fun a h => ?_
    refine q_off h rfl (by decide) (woff h rfl rfl rfl (by decide)) fun a h => ?_
    refine q_off h rfl (by decide) (woff h rfl rfl rfl (by decide)) fun a h => ?_
    refine q_off h rfl (by decide) (woff h rfl rfl rfl (by decide)) fun a h => ?_
    refine q_off h rfl (by decide) (woff h rfl rfl rfl (by decide)) fun a h => ?_
    refine q_step h rfl (by decide) (wanted_none rfl) (fun w hw => x_pick_f rfl rfl rfl) fun a h => ?_
    intro w' hw'
    show Code.wp _ _ _ _ _
    refine wp_cond_false (h.slot 106 _ rfl) (wp_skip ?_)
    exact hn2 (fun hh => h0 (decide_eq_true (by omega))) _ _ (h.pick [2, 7, 8, 9] rfl) hw'
  case pos =>
    have hpos : 0 < L.length := by have := of_decide_eq_true h0; omega
    have hsub := wrap_sub1 L.length 1 hpos (by omega)
    have hlt : L.length - 1 < L.length := by omega
    obtain ⟨ad, hA, c0, c1, c2⟩ := cells37 hC hlt
    subst hA
    by_cases hg : decide ((0 : Int) ≤ signOf (rd_T37 L ((L.length - 1 : Nat) : Int)).f1) = true
    case neg =>
      refine q_step h rfl (by decide) (wanted_none rfl) (fun w hw => x_move rfl) fun a h => ?_
      refine q_step h rfl (by decide) (wanted_none rfl) (fun w hw => Ex.to (x_gtri Tryd.underlying3 rfl rfl) (congrArg Value.bool h0)) fun a h => ?_
      refine q_step h rfl (by decide) (wanted_none rfl) (fun w hw => x_move rfl) fun a h => ?_
      refine q_step h rfl (by decide) (won h rfl rfl rfl (by decide)) (fun w hw => x_move rfl) fun a h => ?_
      refine q_step h rfl (by decide) (won h rfl rfl rfl (by decide)) (fun w hw => x_move rfl) fun a h => ?_
      refine q_step h rfl (by decide) (won h rfl rfl rfl (by decide)) (fun w hw => x_subi Tryd.underlying3 rfl rfl hsub) fun a h => ?_
      refine q_step h rfl (by decide) (won h rfl rfl rfl (by decide)) (fun w hw => x_el37 rfl rfl hlt) fun a h => ?_
      refine q_step h rfl (by decide) (won h rfl rfl rfl (by decide)) (fun w hw => x_field37 1 (by decide) rfl) fun a h => ?_
      refine q_step h rfl (by decide) (won h rfl rfl rfl (by decide)) (by intro w hw; exact x_loadi Tryd.underlying21 rfl (q_cell hw c1)) fun a h => ?_
      refine q_call h rfl (by decide) (won h rfl rfl rfl (by decide)) rfl enters33 (fun a h => map1 h rfl) (fun w => signOf_any _ w) fun a h => ?_
      refine q_step h rfl (by decide) (won h rfl rfl rfl (by decide)) (fun w hw => Ex.to (x_geqi Tryd.underlying21 rfl rfl) (congrArg Value.bool (Bool.eq_false_iff.2 hg))) fun a h => ?_
      refine q_step h rfl (by decide) (wanted_none rfl) (fun w hw => x_pick_t rfl rfl rfl) fun a h => ?_
      refine q_step h rfl (by decide) (wanted_none rfl) (fun w hw => x_move rfl) fun a h => ?_
      refine q_off h rfl (by decide) (woff h rfl rfl rfl (by decide)) fun a h => ?_
      refine q_off h rfl (by decide) (woff h rfl rfl rfl (by decide)) fun a h => ?_
      refine q_off h rfl (by decide) (woff h rfl rfl rfl (by decide)) fun a h => ?_
      refine q_off h rfl (by decide) (woff h rfl rfl rfl (by decide)) fun a h => ?_
      refine q_off h rfl (by decide) (woff h rfl rfl rfl (by decide)) fun a h => ?_
      refine q_off h rfl (by decide) (woff h rfl rfl rfl (by decide)) fun a h => ?_
      refine q_off h rfl (by decide) (woff h rfl rfl rfl (by decide)) fun a h => ?_
      refine q_off h rfl (by decide) (woff h rfl rfl rfl (by decide)) fun a h => ?_
      refine q_off h rfl (by decide) (woff h rfl rfl rfl (by decide)) fun a h => ?_
      refine q_step h rfl (by decide) (wanted_none rfl) (fun w hw => x_pick_f rfl rfl rfl) fun a h => ?_
      intro w' hw'
      show Code.wp _ _ _ _ _
      refine wp_cond_false (h.slot 106 _ rfl) (wp_skip ?_)
      refine hn2 (fun hh => ?_) _ _ (h.pick [2, 7, 8, 9] rfl) hw'
      have := hh.2
      rw [rightB, Bool.eq_false_iff.2 hg] at this
      cases this
    case pos =>
      obtain ⟨b, hb⟩ : ∃ b, takesR m (signOf (rd_T37 L ((L.length - 1 : Nat) : Int)).f1) = b := ⟨_, rfl⟩
      have HT := takesR_any m (signOf (rd_T37 L ((L.length - 1 : Nat) : Int)).f1)
      rw [hb] at HT
      cases b with
      | false =>
        refine q_step h rfl (by decide) (wanted_none rfl) (fun w hw => x_move rfl) fun a h => ?_
        refine q_step h rfl (by decide) (wanted_none rfl) (fun w hw => Ex.to (x_gtri Tryd.underlying3 rfl rfl) (congrArg Value.bool h0)) fun a h => ?_
        refine q_step h rfl (by decide) (wanted_none rfl) (fun w hw => x_move rfl) fun a h => ?_
        refine q_step h rfl (by decide) (won h rfl rfl rfl (by decide)) (fun w hw => x_move rfl) fun a h => ?_
        refine q_step h rfl (by decide) (won h rfl rfl rfl (by decide)) (fun w hw => x_move rfl) fun a h => ?_
        refine q_step h rfl (by decide) (won h rfl rfl rfl (by decide)) (fun w hw => x_subi Tryd.underlying3 rfl rfl hsub) fun a h => ?_
        refine q_step h rfl (by decide) (won h rfl rfl rfl (by decide)) (fun w hw => x_el37 rfl rfl hlt) fun a h => ?_
        refine q_step h rfl (by decide) (won h rfl rfl rfl (by decide)) (fun w hw => x_field37 1 (by decide) rfl) fun a h => ?_
        refine q_step h rfl (by decide) (won h rfl rfl rfl (by decide)) (by intro w hw; exact x_loadi Tryd.underlying21 rfl (q_cell hw c1)) fun a h => ?_
        refine q_call h rfl (by decide) (won h rfl rfl rfl (by decide)) rfl enters33 (fun a h => map1 h rfl) (fun w => signOf_any _ w) fun a h => ?_
        refine q_step h rfl (by decide) (won h rfl rfl rfl (by decide)) (fun w hw => Ex.to (x_geqi Tryd.underlying21 rfl rfl) (congrArg Value.bool hg)) fun a h => ?_
        refine q_step h rfl (by decide) (wanted_none rfl) (fun w hw => x_pick_t rfl rfl rfl) fun a h => ?_
        refine q_step h rfl (by decide) (wanted_none rfl) (fun w hw => x_move rfl) fun a h => ?_
        refine q_step h rfl (by decide) (won h rfl rfl rfl (by decide)) (by intro w hw; exact x_loadi Tryd.underlying22 rfl (q_cell hw hmc)) fun a h => ?_
        refine q_step h rfl (by decide) (won h rfl rfl rfl (by decide)) (fun w hw => x_move rfl) fun a h => ?_
        refine q_step h rfl (by decide) (won h rfl rfl rfl (by decide)) (fun w hw => x_move rfl) fun a h => ?_
        refine q_step h rfl (by decide) (won h rfl rfl rfl (by decide)) (fun w hw => x_subi Tryd.underlying3 rfl rfl hsub) fun a h => ?_
        refine q_step h rfl (by decide) (won h rfl rfl rfl (by decide)) (fun w hw => x_el37 rfl rfl hlt) fun a h => ?_
        refine q_step h rfl (by decide) (won h rfl rfl rfl (by decide)) (fun w hw => x_field37 1 (by decide) rfl) fun a h => ?_
        refine q_step h rfl (by decide) (won h rfl rfl rfl (by decide)) (by intro w hw; exact x_loadi Tryd.underlying21 rfl (q_cell hw c1)) fun a h => ?_
        refine q_call h rfl (by decide) (won h rfl rfl rfl (by decide)) rfl enters33 (fun a h => map1 h rfl) (fun w => signOf_any _ w) fun a h => ?_
        refine q_call h rfl (by decide) (won h rfl rfl rfl (by decide)) rfl enters28 (fun a h => map2 h rfl rfl) (fun w => HT w) fun a h => ?_
        refine q_step h rfl (by decide) (wanted_none rfl) (fun w hw => x_pick_t rfl rfl rfl) fun a h => ?_
        intro w' hw'
        show Code.wp _ _ _ _ _
        refine wp_cond_false (h.slot 106 _ rfl) (wp_skip ?_)
        refine hn2 (fun hh => ?_) _ _ (h.pick [2, 7, 8, 9] rfl) hw'
        have := hh.2
        rw [rightB, hb, Bool.and_false] at this
        cases this
      | true =>
        refine q_step h rfl (by decide) (wanted_none rfl) (fun w hw => x_move rfl) fun a h => ?_
        refine q_step h rfl (by decide) (wanted_none rfl) (fun w hw => Ex.to (x_gtri Tryd.underlying3 rfl rfl) (congrArg Value.bool h0)) fun a h => ?_
        refine q_step h rfl (by decide) (wanted_none rfl) (fun w hw => x_move rfl) fun a h => ?_
        refine q_step h rfl (by decide) (won h rfl rfl rfl (by decide)) (fun w hw => x_move rfl) fun a h => ?_
        refine q_step h rfl (by decide) (won h rfl rfl rfl (by decide)) (fun w hw => x_move rfl) fun a h => ?_
        refine q_step h rfl (by decide) (won h rfl rfl rfl (by decide)) (fun w hw => x_subi Tryd.underlying3 rfl rfl hsub) fun a h => ?_
        refine q_step h rfl (by decide) (won h rfl rfl rfl (by decide)) (fun w hw => x_el37 rfl rfl hlt) fun a h => ?_
        refine q_step h rfl (by decide) (won h rfl rfl rfl (by decide)) (fun w hw => x_field37 1 (by decide) rfl) fun a h => ?_
        refine q_step h rfl (by decide) (won h rfl rfl rfl (by decide)) (by intro w hw; exact x_loadi Tryd.underlying21 rfl (q_cell hw c1)) fun a h => ?_
        refine q_call h rfl (by decide) (won h rfl rfl rfl (by decide)) rfl enters33 (fun a h => map1 h rfl) (fun w => signOf_any _ w) fun a h => ?_
        refine q_step h rfl (by decide) (won h rfl rfl rfl (by decide)) (fun w hw => Ex.to (x_geqi Tryd.underlying21 rfl rfl) (congrArg Value.bool hg)) fun a h => ?_
        refine q_step h rfl (by decide) (wanted_none rfl) (fun w hw => x_pick_t rfl rfl rfl) fun a h => ?_
        refine q_step h rfl (by decide) (wanted_none rfl) (fun w hw => x_move rfl) fun a h => ?_
        refine q_step h rfl (by decide) (won h rfl rfl rfl (by decide)) (by intro w hw; exact x_loadi Tryd.underlying22 rfl (q_cell hw hmc)) fun a h => ?_
        refine q_step h rfl (by decide) (won h rfl rfl rfl (by decide)) (fun w hw => x_move rfl) fun a h => ?_
        refine q_step h rfl (by decide) (won h rfl rfl rfl (by decide)) (fun w hw => x_move rfl) fun a h => ?_
        refine q_step h rfl (by decide) (won h rfl rfl rfl (by decide)) (fun w hw => x_subi Tryd.underlying3 rfl rfl hsub) fun a h => ?_
        refine q_step h rfl (by decide) (won h rfl rfl rfl (by decide)) (fun w hw => x_el37 rfl rfl hlt) fun a h => ?_
        refine q_step h rfl (by decide) (won h rfl rfl rfl (by decide)) (fun w hw => x_field37 1 (by decide) rfl) fun a h => ?_
        refine q_step h rfl (by decide) (won h rfl rfl rfl (by decide)) (by intro w hw; exact x_loadi Tryd.underlying21 rfl (q_cell hw c1)) fun a h => ?_
        refine q_call h rfl (by decide) (won h rfl rfl rfl (by decide)) rfl enters33 (fun a h => map1 h rfl) (fun w => signOf_any _ w) fun a h => ?_
        refine q_call h rfl (by decide) (won h rfl rfl rfl (by decide)) rfl enters28 (fun a h => map2 h rfl rfl) (fun w => HT w) fun a h => ?_
        refine q_step h rfl (by decide) (wanted_none rfl) (fun w hw => x_pick_t rfl rfl rfl) fun a h => ?_
        intro w' hw'
        show Code.wp _ _ _ _ _
        refine wp_cond_true (h.slot 106 _ rfl) ?_
        replace h := h.pick [2, 7, 8, 9, 11] rfl
        have hR : rightB m (rd_T37 L ((L.length - 1 : Nat) : Int)).f1 = true := by rw [rightB, hg, hb]; rfl
        obtain ⟨m1, m2, m3⟩ := move hw'
        have b0 := q_cell hw' c0
        have b1 := q_cell hw' c1
        clear hn2 HT move c0 c1 c2 hmc hm hC hB
        clear hw'
        generalize w' = w1 at m1 m2 m3 b0 b1
        refine wp_seq ?_
        refine wp_region_lit ?_
        have last : ∀ (hno : ¬ (1 < L.length ∧ (rd_T37 L ((L.length - 2 : Nat) : Int)).f1 = 8219)) a', Fm 186 [(2, .pointer (some ⟨w0.heap.size, 0, none⟩)), (7, .slice (some ad) L.length c), (8, .string hd), (9, .string ⟨#[]⟩), (11, .int .i64 (L.length : Int))] a' →
            (piece [1, 1, 1, 1, 1, 1, 0, 1, 1, 0, 1, 1] (Tryd.f17.body.getD .skip)).wp Tryd.prog (Exit.then (fun a w => (piece [1, 1, 1, 1, 1, 1, 1] (Tryd.f17.body.getD .skip)).wp Tryd.prog (bodyPost Tryd.prog Tryd.f17 R) a w) (bodyPost Tryd.prog Tryd.f17 R)) a' w1 := by
          intro hno a' h
          conv => arg 2; whnf
          refine wp_region_quiet_lit (by kernel_rfl) (by kernel_rfl) ?_
          refine q_step h rfl (by decide) (wanted_none rfl) (fun w hw => x_move rfl) fun a h => ?_
          refine q_step h rfl (by decide) (wanted_none rfl) (fun w hw => x_move rfl) fun a h => ?_
          refine q_step h rfl (by decide) (wanted_none rfl) (fun w hw => x_subi Tryd.underlying3 rfl rfl hsub) fun a h => ?_
          refine q_step h rfl (by decide) (wanted_none rfl) (fun w hw => x_to34 rfl rfl (by omega) hcap) fun a h => ?_
          refine q_step h rfl (by decide) (wanted_none rfl) (fun w hw => x_move rfl) fun a h => ?_
          refine q_step h rfl (by decide) (wanted_none rfl) (fun w hw => x_move rfl) fun a h => ?_
          refine q_step h rfl (by decide) (wanted_none rfl) (fun w hw => x_subi Tryd.underlying3 rfl rfl hsub) fun a h => ?_
          refine q_step h rfl (by decide) (wanted_none rfl) (fun w hw => x_el37 rfl rfl hlt) fun a h => ?_
          refine q_step h rfl (by decide) (wanted_none rfl) (fun w hw => x_field37 1 (by decide) rfl) fun a h => ?_
          refine q_step h rfl (by decide) (wanted_none rfl) (by intro w hw; exact x_loadi Tryd.underlying21 rfl (q_cell hw b1)) fun a h => ?_
          refine q_call h rfl (by decide) (wanted_none rfl) rfl enters33 (fun a h => map1 h rfl) (fun w => signOf_any _ w) fun a h => ?_
          refine q_step h rfl (by decide) (wanted_none rfl) (fun w hw => x_rune Tryd.underlying21 Tryd.underlying9 rfl) fun a h => ?_
          refine q_step h rfl (by decide) (wanted_none rfl) (fun w hw => x_assign rfl) fun a h => ?_
          refine q_step h rfl (by decide) (wanted_none rfl) (fun w hw => x_assign rfl) fun a h => ?_
          rintro w' hw'
          show Code.wp _ _ _ _ _
          replace h := h.pick [2, 7, 8, 9] rfl
          have e : tailS m L = (Utf8.encode (signOf (rd_T37 L ((L.length - 1 : Nat) : Int)).f1), L.take (L.length - 1)) := by rw [tailS, if_pos ⟨hpos, hR⟩, if_neg hno]
          have el : (L.take (L.length - 1)).length = L.length - 1 := by rw [List.length_take]; omega
          obtain ⟨n, rfl⟩ := hw'
          refine loop_walk (L := L.take (L.length - 1)) (by rw [el]; exact h) m1 (C_take m2 (by omega)) (by rw [el]; omega) (m3.trans ((quiet_below ⟨n, rfl⟩).mono m3.size)) hhd (Nat.le_trans (encode_size _) (by decide)) (fun u hu => hs u (List.mem_of_mem_take hu)) (by rw [el]; omega) ?_
          rw [e] at H
          exact H
        by_cases h2 : decide ((1 : Int) < (L.length : Int)) = true
        case neg =>
          refine Sym.step h rfl (by decide) (wanted_none rfl) (x_move rfl) fun a h => ?_
          refine Sym.step h rfl (by decide) (wanted_none rfl) (Ex.to (x_gtri Tryd.underlying3 rfl rfl) (congrArg Value.bool (Bool.eq_false_iff.2 h2))) fun a h => ?_
          refine Sym.step h rfl (by decide) (wanted_none rfl) (x_move rfl) fun a h => ?_
          refine Sym.off h rfl (by decide) (woff h rfl rfl rfl (by decide)) fun a h => ?_
          refine Sym.off h rfl (by decide) (woff h rfl rfl rfl (by decide)) fun a h => ?_
          refine Sym.off h rfl (by decide) (woff h rfl rfl rfl (by decide)) fun a h => ?_
          refine Sym.off h rfl (by decide) (woff h rfl rfl rfl (by decide)) fun a h => ?_
          refine Sym.off h rfl (by decide) (woff h rfl rfl rfl (by decide)) fun a h => ?_
          refine Sym.off h rfl (by decide) (woff h rfl rfl rfl (by decide)) fun a h => ?_
          refine Sym.off h rfl (by decide) (woff h rfl rfl rfl (by decide)) fun a h => ?_
          refine Sym.step h rfl (by decide) (wanted_none rfl) (x_pick_f rfl rfl rfl) fun a h => ?_
          refine wpList_nil ?_
          show Code.wp _ _ _ _ _
          refine wp_cond_false (h.slot 117 _ rfl) ?_
          exact last (fun hh => h2 (decide_eq_true (by omega))) _ (h.pick [2, 7, 8, 9, 11] rfl)
        case pos =>
          have hp2 : 1 < L.length := by have := of_decide_eq_true h2; omega
          have hsub2 := wrap_sub1 L.length 2 hp2 (by omega)
          have hlt2 : L.length - 2 < L.length := by omega
          obtain ⟨ad', hA, d0, d1, d2⟩ := cells37 m2 hlt2
          obtain rfl := Option.some.inj hA
          by_cases h8 : ((rd_T37 L ((L.length - 2 : Nat) : Int)).f1 == 8219) = true
          case neg =>
            refine Sym.step h rfl (by decide) (wanted_none rfl) (x_move rfl) fun a h => ?_
            refine Sym.step h rfl (by decide) (wanted_none rfl) (Ex.to (x_gtri Tryd.underlying3 rfl rfl) (congrArg Value.bool h2)) fun a h => ?_
            refine Sym.step h rfl (by decide) (wanted_none rfl) (x_move rfl) fun a h => ?_
            refine Sym.step h rfl (by decide) (won h rfl rfl rfl (by decide)) (x_move rfl) fun a h => ?_
            refine Sym.step h rfl (by decide) (won h rfl rfl rfl (by decide)) (x_move rfl) fun a h => ?_
            refine Sym.step h rfl (by decide) (won h rfl rfl rfl (by decide)) (x_subi Tryd.underlying3 rfl rfl hsub2) fun a h => ?_
            refine Sym.step h rfl (by decide) (won h rfl rfl rfl (by decide)) (x_el37 rfl rfl hlt2) fun a h => ?_
            refine Sym.step h rfl (by decide) (won h rfl rfl rfl (by decide)) (x_field37 1 (by decide) rfl) fun a h => ?_
            refine Sym.step h rfl (by decide) (won h rfl rfl rfl (by decide)) (x_loadi Tryd.underlying21 rfl d1) fun a h => ?_
            refine Sym.step h rfl (by decide) (won h rfl rfl rfl (by decide)) (Ex.to (x_eqli Tryd.underlying21 rfl rfl) (congrArg Value.bool (Bool.eq_false_iff.2 h8))) fun a h => ?_
            refine Sym.step h rfl (by decide) (wanted_none rfl) (x_pick_t rfl rfl rfl) fun a h => ?_
            refine wpList_nil ?_
            show Code.wp _ _ _ _ _
            refine wp_cond_false (h.slot 117 _ rfl) ?_
            exact last (fun hh => h8 (by simpa using hh.2)) _ (h.pick [2, 7, 8, 9, 11] rfl)
          case pos =>
            refine Sym.step h rfl (by decide) (wanted_none rfl) (x_move rfl) fun a h => ?_
            refine Sym.step h rfl (by decide) (wanted_none rfl) (Ex.to (x_gtri Tryd.underlying3 rfl rfl) (congrArg Value.bool h2)) fun a h => ?_
            refine Sym.step h rfl (by decide) (wanted_none rfl) (x_move rfl) fun a h => ?_
            refine Sym.step h rfl (by decide) (won h rfl rfl rfl (by decide)) (x_move rfl) fun a h => ?_
            refine Sym.step h rfl (by decide) (won h rfl rfl rfl (by decide)) (x_move rfl) fun a h => ?_
            refine Sym.step h rfl (by decide) (won h rfl rfl rfl (by decide)) (x_subi Tryd.underlying3 rfl rfl hsub2) fun a h => ?_
            refine Sym.step h rfl (by decide) (won h rfl rfl rfl (by decide)) (x_el37 rfl rfl hlt2) fun a h => ?_
            refine Sym.step h rfl (by decide) (won h rfl rfl rfl (by decide)) (x_field37 1 (by decide) rfl) fun a h => ?_
            refine Sym.step h rfl (by decide) (won h rfl rfl rfl (by decide)) (x_loadi Tryd.underlying21 rfl d1) fun a h => ?_
            refine Sym.step h rfl (by decide) (won h rfl rfl rfl (by decide)) (Ex.to (x_eqli Tryd.underlying21 rfl rfl) (congrArg Value.bool h8)) fun a h => ?_
            refine Sym.step h rfl (by decide) (wanted_none rfl) (x_pick_t rfl rfl rfl) fun a h => ?_
            refine wpList_nil ?_
            show Code.wp _ _ _ _ _
            refine wp_cond_true (h.slot 117 _ rfl) ?_
            refine wp_region_quiet_lit (by kernel_rfl) (by kernel_rfl) ?_
            refine q_step h rfl (by decide) (wanted_none rfl) (fun w hw => x_move rfl) fun a h => ?_
            refine q_step h rfl (by decide) (wanted_none rfl) (fun w hw => x_move rfl) fun a h => ?_
            refine q_step h rfl (by decide) (wanted_none rfl) (fun w hw => x_subi Tryd.underlying3 rfl rfl hsub2) fun a h => ?_
            refine q_step h rfl (by decide) (wanted_none rfl) (fun w hw => x_to34 rfl rfl (by omega) hcap) fun a h => ?_
            refine q_step h rfl (by decide) (wanted_none rfl) (fun w hw => x_move rfl) fun a h => ?_
            refine q_step h rfl (by decide) (wanted_none rfl) (fun w hw => x_move rfl) fun a h => ?_
            refine q_step h rfl (by decide) (wanted_none rfl) (fun w hw => x_subi Tryd.underlying3 rfl rfl hsub) fun a h => ?_
            refine q_step h rfl (by decide) (wanted_none rfl) (fun w hw => x_el37 rfl rfl hlt) fun a h => ?_
            refine q_step h rfl (by decide) (wanted_none rfl) (fun w hw => x_field37 0 (by decide) rfl) fun a h => ?_
            refine q_step h rfl (by decide) (wanted_none rfl) (by intro w hw; exact x_loads Tryd.underlying9 rfl (q_cell hw b0)) fun a h => ?_
            refine q_step h rfl (by decide) (wanted_none rfl) (fun w hw => x_assign rfl) fun a h => ?_
            refine q_step h rfl (by decide) (wanted_none rfl) (fun w hw => x_assign rfl) fun a h => ?_
            rintro w' hw'
            show Code.wp _ _ _ _ _
            replace h := h.pick [2, 7, 8, 9] rfl
            have e : tailS m L = ((rd_T37 L ((L.length - 1 : Nat) : Int)).f0, L.take (L.length - 2)) := by rw [tailS, if_pos ⟨hpos, hR⟩, if_pos ⟨hp2, by simpa using h8⟩]
            have el : (L.take (L.length - 2)).length = L.length - 2 := by rw [List.length_take]; omega
            obtain ⟨n, rfl⟩ := hw'
            refine loop_walk (L := L.take (L.length - 2)) (by rw [el]; exact h) m1 (C_take m2 (by omega)) (by rw [el]; omega) (m3.trans ((quiet_below ⟨n, rfl⟩).mono m3.size)) hhd (Nat.le_trans (hs _ (rd_mem L _ hlt)) (by decide)) (fun u hu => hs u (List.mem_of_mem_take hu)) (by rw [el]; omega) ?_
            rw [e] at H
            exact H

/-! #### the head -/
section
variable {w : World} {l : Slots} {x y : Operand} {d : Option Tmp} {ty : TypeId} {pos : String} {aft : Array Edge} {g : Option (Nat × Bool)}
theorem x_load42 {ad : Addr} {s0 s1 : ByteArray} (hx : ev l x = some (.pointer (some ad))) (h0 : w.cell? ad = some (.string s0)) (h1 : w.cell? (ad.add 1) = some (.string s1)) :
    Ex Tryd.prog l w { dst := d, op := .load 42 x, type := ty, pos := pos, after := aft, guard := g } (.agg #[.string s0, .string s1]) w := fun N a h => by
  simp only [execOp, h.ev hx]
  have hu := Tryd.underlying42
  simp only [Addr.add, Nat.reduceEqDiff, if_false, ↓reduceIte] at h1
  simp [go_sem, hu, h0, h1]
theorem x_alloc42 :
    Ex Tryd.prog l w { dst := d, op := .alloc 42, type := ty, pos := pos, after := aft, guard := g } (.pointer (some ⟨w.heap.size, 0, none⟩)) (w.alloc (.cells #[.string ⟨#[]⟩, .string ⟨#[]⟩] 42)) := fun N a h => by
  simp only [execOp]
  simp [go_sem]
theorem x_arr42 {b k : Nat} (hk : k < 2) (hx : ev l x = some (.pointer (some ⟨b, 0, none⟩))) (hy : ev l y = some (.int .i64 (k : Int))) :
    Ex Tryd.prog l w { dst := d, op := .indexAddr 42 x y, type := ty, pos := pos, after := aft, guard := g } (.pointer (some ((⟨b, 0, none⟩ : Addr).add k))) w := fun N a h => by
  simp only [execOp, h.ev hx, h.ev hy]
  have hu := Tryd.underlying42
  have h2 : ¬ (2 : Int) ≤ (k : Int) := by omega
  have h3 : (⟨b, 0, none⟩ : Addr).add k = ⟨b, k, none⟩ := by unfold Addr.add; split <;> simp_all
  rw [h3]
  simp [go_sem, hu, h2]
  try omega
theorem run_store42 {b : Nat} {u0 u1 : Value} {s0 s1 : ByteArray} {a : Act} {N : Nat} (h : Fm N l a) (hx : ev l x = some (.pointer (some ⟨b, 0, none⟩))) (hy : ev l y = some (.agg #[.string s0, .string s1])) (hb : w.heap[b]? = some (.cells #[u0, u1] 42 (0, 0))) :
    (execOp a.eval { dst := none, op := .store 42 x y, type := ty, pos := pos, after := aft, guard := g }).run Tryd.prog w = .ok .skip (w.setRow b #[.string s0, .string s1]) := by
  simp only [execOp, h.ev hx, h.ev hy]
  have hu := Tryd.underlying42
  have e0 : w.cell? ⟨b, 0, none⟩ = some u0 := by simp [World.cell?, hb]
  have f0 : w.frozen? ⟨b, 0, none⟩ = false := by simp [World.frozen?, hb]
  have s0' := setCell_eq_setRow w b 0 #[u0, u1] 42 (0, 0) (.string s0) hb
  have hb1 := setRow_heap w b #[u0, u1] #[.string s0, u1] 42 _ hb
  have e1 : (w.setRow b #[.string s0, u1]).cell? ⟨b, 1, none⟩ = some u1 := by simp only [World.cell?, hb1]; rfl
  have f1 : (w.setRow b #[.string s0, u1]).frozen? ⟨b, 1, none⟩ = false := by simp only [World.frozen?, hb1]; rfl
  have s1' := setCell_eq_setRow (w.setRow b #[.string s0, u1]) b 1 #[.string s0, u1] 42 (0, 0) (.string s1) hb1
  rw [setRow_setRow] at s1'
  have s0'' : w.setCell ⟨b, 0, none⟩ (.string s0) = w.setRow b #[.string s0, u1] := s0'
  have s1'' : (w.setRow b #[.string s0, u1]).setCell ⟨b, 1, none⟩ (.string s1) = w.setRow b #[.string s0, .string s1] := s1'
  simp [go_sem, hu, e0, f0, s0'', e1, f1, s1'']
end

def bodyS (m : Int) (L : List S37) : ByteArray := ⟨((headS m L).1.data.toList ++ loopS m (tailS m (headS m L).2).2.length (tailS m (headS m L).2).2 ++ (tailS m (headS m L).2).1.data.toList).toArray⟩
set_option maxRecDepth 100000 in
set_option maxHeartbeats 4000000 in
theorem head_walk {R : Ending → World → Prop} {a : Act} {w0 w : World} {m : Int} {A : Option Addr} {c : Nat} {L : List S37}
    (h : Fm 186 [(2, .pointer (some ⟨w0.heap.size, 0, none⟩)), (7, .slice A L.length c), (8, .string ⟨#[]⟩), (9, .string ⟨#[]⟩), (10, .func (.func 32) #[] #[.pointer (some ⟨w0.heap.size, 0, none⟩)])] a)
    (hm : w.heap[w0.heap.size]? = some (.cells #[.int .u64 m] 22 (0, 0))) (hC : Kd.C k37 w A L.length L) (hcap : L.length ≤ c) (hB : Below w0.heap.size w0 w)
    (hs : ∀ u ∈ L, u.f0.size ≤ 8) (hn : L.length ≤ 1000000) (hpos : 0 < L.length)
    (H : ∀ w', Below w0.heap.size w0 w' → R (.returned (.string (bodyS m L))) w') :
    (piece [1, 1, 1, 1, 1] (Tryd.f17.body.getD .skip)).wp Tryd.prog (bodyPost Tryd.prog Tryd.f17 R) a w := by
  conv => arg 2; whnf
  unfold bodyS at H
  have move : ∀ {w'}, Below w.heap.size w w' → w'.heap[w0.heap.size]? = some (.cells #[.int .u64 m] 22 (0, 0)) ∧ Kd.C k37 w' A L.length L ∧ Below w0.heap.size w0 w' :=
    fun hb => ⟨oldB hb hm, Kd.C_below hC hb, hB.trans (hb.mono hB.size)⟩
  obtain ⟨ad, hA, c0, c1, c2⟩ := cells37 hC hpos
  subst hA
  refine wp_seq ?_
  refine wp_block ?_
  refine wp_seq ?_
  refine wp_region_lit ?_
  refine Sym.step h rfl (by decide) (wanted_none rfl) (x_move rfl) fun a h => ?_
  refine Sym.step h rfl (by decide) (wanted_none rfl) (x_move rfl) fun a h => ?_
  refine Sym.step h rfl (by decide) (wanted_none rfl) (x_el37 rfl rfl hpos) fun a h => ?_
  refine Sym.step h rfl (by decide) (wanted_none rfl) (x_load37 rfl c0 c1 c2) fun a h => ?_
  obtain ⟨b, hb⟩ : ∃ b, leftB m (rd_T37 L (0 : Nat)).f1 = b := ⟨_, rfl⟩
  have HL := left_any m (rd_T37 L (0 : Nat)).f1 (rd_T37 L (0 : Nat)).f0 (rd_T37 L (0 : Nat)).f2 w0.heap.size w hm
  rw [hb] at HL
  refine Sym.callc h rfl (by decide) (wanted_none rfl) rfl rfl enters32 (fun a h => map1 h rfl) ?_
  show Calls _ _ #[_, _] _ _
  refine HL.mono ?_
  rintro e w1 ⟨rfl, hb1⟩
  refine ⟨_, rfl, fun a h => ?_⟩
  clear HL
  refine Sym.step h rfl (by decide) (wanted_none rfl) (x_assign rfl) fun a h => ?_
  refine wpList_nil ?_
  show Code.wp _ _ _ _ _
  obtain ⟨m1, mC, mB⟩ := move hb1
  clear c0 c1 c2 hB hm hC move
  clear hb1
  obtain ⟨ad', hA, c0, c1, c2⟩ := cells37 mC hpos
  obtain rfl := Option.some.inj hA
  cases b with
  | true =>
    refine wp_cond_true (h.slot 44 _ rfl) ?_
    refine wp_region_quiet_lit (by kernel_rfl) (by kernel_rfl) ?_
    refine q_step h rfl (by decide) (wanted_none rfl) (fun w hw => x_move rfl) fun a h => ?_
    refine q_step h rfl (by decide) (wanted_none rfl) (fun w hw => x_from34 rfl rfl (j := 1) hpos) fun a h => ?_
    refine q_step h rfl (by decide) (wanted_none rfl) (fun w hw => x_move rfl) fun a h => ?_
    refine q_step h rfl (by decide) (wanted_none rfl) (fun w hw => x_el37 rfl rfl hpos) fun a h => ?_
    refine q_step h rfl (by decide) (wanted_none rfl) (fun w hw => x_field37 1 (by decide) rfl) fun a h => ?_
    refine q_step h rfl (by decide) (wanted_none rfl) (by intro w hw; exact x_loadi Tryd.underlying21 rfl (q_cell hw c1)) fun a h => ?_
    refine q_call h rfl (by decide) (wanted_none rfl) rfl enters33 (fun a h => map1 h rfl) (fun w => signOf_any _ w) fun a h => ?_
    refine q_step h rfl (by decide) (wanted_none rfl) (fun w hw => x_rune Tryd.underlying21 Tryd.underlying9 rfl) fun a h => ?_
    refine q_step h rfl (by decide) (wanted_none rfl) (fun w hw => x_assign rfl) fun a h => ?_
    refine q_step h rfl (by decide) (wanted_none rfl) (fun w hw => x_assign rfl) fun a h => ?_
    rintro w' hw'
    show Code.wp _ _ _ _ _
    replace h := h.pick [2, 7, 8, 9] rfl
    have e : headS m L = (Utf8.encode (signOf (rd_T37 L (0 : Nat)).f1), L.drop 1) := by rw [headS, if_pos hb]
    have el : (L.drop 1).length = L.length - 1 := by rw [List.length_drop]
    obtain ⟨n, rfl⟩ := hw'
    refine tail_walk (L := L.drop 1) (by rw [el]; exact h) m1 (C_drop mC hcap hpos) (by rw [el]; omega) (mB.trans ((quiet_below ⟨n, rfl⟩).mono mB.size)) (Nat.le_trans (encode_size _) (by decide)) (fun u hu => hs u (List.mem_of_mem_drop hu)) (by rw [el]; omega) ?_
    rw [e] at H
    exact H
  | false =>
    refine wp_cond_false (h.slot 44 _ rfl) ?_
    have last : ∀ (hno : ¬ (1 < L.length ∧ (rd_T37 L (0 : Nat)).f1 = 8219 ∧ leftB m (rd_T37 L (1 : Nat)).f1 = true)) a' w', Fm 186 [(2, .pointer (some ⟨w0.heap.size, 0, none⟩)), (7, .slice (some ad) L.length c), (8, .string ⟨#[]⟩), (9, .string ⟨#[]⟩)] a' → Below w1.heap.size w1 w' →
        (piece [1, 1, 1, 1, 1, 1] (Tryd.f17.body.getD .skip)).wp Tryd.prog (bodyPost Tryd.prog Tryd.f17 R) a' w' := by
      intro hno a' w' h hb'
      have e : headS m L = (⟨#[]⟩, L) := by rw [headS, if_neg (by rw [hb]; decide), if_neg hno]
      refine tail_walk h (oldB hb' m1) (Kd.C_below mC hb') hcap (mB.trans (hb'.mono mB.size)) (by decide) hs hn ?_
      rw [e] at H
      exact H
    refine wp_seq ?_
    refine wp_region_lit ?_
    by_cases h1 : decide ((1 : Int) < (L.length : Int)) = true
    case neg =>
      refine Sym.step h rfl (by decide) (wanted_none rfl) (x_move rfl) fun a h => ?_
      refine Sym.step h rfl (by decide) (wanted_none rfl) (x_lenr Tryd.underlying34 rfl) fun a h => ?_
      refine Sym.step h rfl (by decide) (wanted_none rfl) (Ex.to (x_gtri Tryd.underlying3 rfl rfl) (congrArg Value.bool (Bool.eq_false_iff.2 h1))) fun a h => ?_
      refine Sym.step h rfl (by decide) (wanted_none rfl) (x_move rfl) fun a h => ?_
      refine Sym.off h rfl (by decide) (woff h rfl rfl rfl (by decide)) fun a h => ?_
      refine Sym.off h rfl (by decide) (woff h rfl rfl rfl (by decide)) fun a h => ?_
      refine Sym.off h rfl (by decide) (woff h rfl rfl rfl (by decide)) fun a h => ?_
      refine Sym.off h rfl (by decide) (woff h rfl rfl rfl (by decide)) fun a h => ?_
      refine Sym.off h rfl (by decide) (woff h rfl rfl rfl (by decide)) fun a h => ?_
      refine Sym.step h rfl (by decide) (wanted_none rfl) (x_pick_f rfl rfl rfl) fun a h => ?_
      refine Sym.step h rfl (by decide) (wanted_none rfl) (x_move rfl) fun a h => ?_
      refine Sym.off h rfl (by decide) (woff h rfl rfl rfl (by decide)) fun a h => ?_
      refine Sym.off h rfl (by decide) (woff h rfl rfl rfl (by decide)) fun a h => ?_
      refine Sym.off h rfl (by decide) (woff h rfl rfl rfl (by decide)) fun a h => ?_
      refine Sym.off h rfl (by decide) (woff h rfl rfl rfl (by decide)) fun a h => ?_
      refine Sym.off h rfl (by decide) (woff h rfl rfl rfl (by decide)) fun a h => ?_
      refine Sym.step h rfl (by decide) (wanted_none rfl) (x_pick_f rfl rfl rfl) fun a h => ?_
      refine Sym.step h rfl (by decide) (wanted_none rfl) (x_assign rfl) fun a h => ?_
      refine wpList_nil ?_
      show Code.wp _ _ _ _ _
      refine wp_cond_false (h.slot 58 _ rfl) (wp_skip ?_)
      exact last (fun hh => h1 (decide_eq_true (by omega))) _ _ (h.pick [2, 7, 8, 9] rfl) (Below.refl _ _)
    case pos =>
      have hp1 : 1 < L.length := by have := of_decide_eq_true h1; omega
      by_cases h8 : ((rd_T37 L (0 : Nat)).f1 == 8219) = true
      case neg =>
        refine Sym.step h rfl (by decide) (wanted_none rfl) (x_move rfl) fun a h => ?_
        refine Sym.step h rfl (by decide) (wanted_none rfl) (x_lenr Tryd.underlying34 rfl) fun a h => ?_
        refine Sym.step h rfl (by decide) (wanted_none rfl) (Ex.to (x_gtri Tryd.underlying3 rfl rfl) (congrArg Value.bool h1)) fun a h => ?_
        refine Sym.step h rfl (by decide) (wanted_none rfl) (x_move rfl) fun a h => ?_
        refine Sym.step h rfl (by decide) (won h rfl rfl rfl (by decide)) (x_move rfl) fun a h => ?_
        refine Sym.step h rfl (by decide) (won h rfl rfl rfl (by decide)) (x_el37 rfl rfl hpos) fun a h => ?_
        refine Sym.step h rfl (by decide) (won h rfl rfl rfl (by decide)) (x_field37 1 (by decide) rfl) fun a h => ?_
        refine Sym.step h rfl (by decide) (won h rfl rfl rfl (by decide)) (x_loadi Tryd.underlying21 rfl c1) fun a h => ?_
        refine Sym.step h rfl (by decide) (won h rfl rfl rfl (by decide)) (Ex.to (x_eqli Tryd.underlying21 rfl rfl) (congrArg Value.bool (Bool.eq_false_iff.2 h8))) fun a h => ?_
        refine Sym.step h rfl (by decide) (wanted_none rfl) (x_pick_t rfl rfl rfl) fun a h => ?_
        refine Sym.step h rfl (by decide) (wanted_none rfl) (x_move rfl) fun a h => ?_
        refine Sym.off h rfl (by decide) (woff h rfl rfl rfl (by decide)) fun a h => ?_
        refine Sym.off h rfl (by decide) (woff h rfl rfl rfl (by decide)) fun a h => ?_
        refine Sym.off h rfl (by decide) (woff h rfl rfl rfl (by decide)) fun a h => ?_
        refine Sym.off h rfl (by decide) (woff h rfl rfl rfl (by decide)) fun a h => ?_
        refine Sym.off h rfl (by decide) (woff h rfl rfl rfl (by decide)) fun a h => ?_
        refine Sym.step h rfl (by decide) (wanted_none rfl) (x_pick_f rfl rfl rfl) fun a h => ?_
        refine Sym.step h rfl (by decide) (wanted_none rfl) (x_assign rfl) fun a h => ?_
        refine wpList_nil ?_
        show Code.wp _ _ _ _ _
        refine wp_cond_false (h.slot 58 _ rfl) (wp_skip ?_)
        exact last (fun hh => h8 (by simpa using hh.2.1)) _ _ (h.pick [2, 7, 8, 9] rfl) (Below.refl _ _)
      case pos =>
        obtain ⟨ad', hA, d0, d1, d2⟩ := cells37 mC hp1
        obtain rfl := Option.some.inj hA
        obtain ⟨b', hb'⟩ : ∃ b, leftB m (rd_T37 L (1 : Nat)).f1 = b := ⟨_, rfl⟩
        have HL := left_any m (rd_T37 L (1 : Nat)).f1 (rd_T37 L (1 : Nat)).f0 (rd_T37 L (1 : Nat)).f2 w0.heap.size w1 m1
        rw [hb'] at HL
        refine Sym.step h rfl (by decide) (wanted_none rfl) (x_move rfl) fun a h => ?_
        refine Sym.step h rfl (by decide) (wanted_none rfl) (x_lenr Tryd.underlying34 rfl) fun a h => ?_
        refine Sym.step h rfl (by decide) (wanted_none rfl) (Ex.to (x_gtri Tryd.underlying3 rfl rfl) (congrArg Value.bool h1)) fun a h => ?_
        refine Sym.step h rfl (by decide) (wanted_none rfl) (x_move rfl) fun a h => ?_
        refine Sym.step h rfl (by decide) (won h rfl rfl rfl (by decide)) (x_move rfl) fun a h => ?_
        refine Sym.step h rfl (by decide) (won h rfl rfl rfl (by decide)) (x_el37 rfl rfl hpos) fun a h => ?_
        refine Sym.step h rfl (by decide) (won h rfl rfl rfl (by decide)) (x_field37 1 (by decide) rfl) fun a h => ?_
        refine Sym.step h rfl (by decide) (won h rfl rfl rfl (by decide)) (x_loadi Tryd.underlying21 rfl c1) fun a h => ?_
        refine Sym.step h rfl (by decide) (won h rfl rfl rfl (by decide)) (Ex.to (x_eqli Tryd.underlying21 rfl rfl) (congrArg Value.bool h8)) fun a h => ?_
        refine Sym.step h rfl (by decide) (wanted_none rfl) (x_pick_t rfl rfl rfl) fun a h => ?_
        refine Sym.step h rfl (by decide) (wanted_none rfl) (x_move rfl) fun a h => ?_
        refine Sym.step h rfl (by decide) (won h rfl rfl rfl (by decide)) (x_move rfl) fun a h => ?_
        refine Sym.step h rfl (by decide) (won h rfl rfl rfl (by decide)) (x_move rfl) fun a h => ?_
        refine Sym.step h rfl (by decide) (won h rfl rfl rfl (by decide)) (x_el37 rfl rfl hp1) fun a h => ?_
        refine Sym.step h rfl (by decide) (won h rfl rfl rfl (by decide)) (x_load37 rfl d0 d1 d2) fun a h => ?_
        refine Sym.callc h rfl (by decide) (won h rfl rfl rfl (by decide)) rfl rfl enters32 (fun a h => map1 h rfl) ?_
        show Calls _ _ #[_, _] _ _
        refine HL.mono ?_
        rintro e w2 ⟨rfl, hb2⟩
        refine ⟨_, rfl, fun a h => ?_⟩
        refine Sym.step h rfl (by decide) (wanted_none rfl) (x_pick_t rfl rfl rfl) fun a h => ?_
        refine Sym.step h rfl (by decide) (wanted_none rfl) (x_assign rfl) fun a h => ?_
        refine wpList_nil ?_
        show Code.wp _ _ _ _ _
        cases b' with
        | false =>
          refine wp_cond_false (h.slot 58 _ rfl) (wp_skip ?_)
          refine last (fun hh => ?_) _ _ (h.pick [2, 7, 8, 9] rfl) hb2
          have := hh.2.2
          rw [hb'] at this
          cases this
        | true =>
          refine wp_cond_true (h.slot 58 _ rfl) ?_
          have mC2 := Kd.C_below mC hb2
          have m2 := oldB hb2 m1
          have mB2 := mB.trans (hb2.mono mB.size)
          clear last HL c0 c1 c2 d0 d1 d2
          clear hb2
          obtain ⟨ad', hA, d0, d1, d2⟩ := cells37 mC2 hp1
          obtain rfl := Option.some.inj hA
          refine wp_region_quiet_lit (by kernel_rfl) (by kernel_rfl) ?_
          refine q_step h rfl (by decide) (wanted_none rfl) (fun w hw => x_move rfl) fun a h => ?_
          refine q_step h rfl (by decide) (wanted_none rfl) (fun w hw => x_from34 rfl rfl (j := 2) hp1) fun a h => ?_
          refine q_step h rfl (by decide) (wanted_none rfl) (fun w hw => x_move rfl) fun a h => ?_
          refine q_step h rfl (by decide) (wanted_none rfl) (fun w hw => x_el37 rfl rfl hp1) fun a h => ?_
          refine q_step h rfl (by decide) (wanted_none rfl) (fun w hw => x_field37 0 (by decide) rfl) fun a h => ?_
          refine q_step h rfl (by decide) (wanted_none rfl) (by intro w hw; exact x_loads Tryd.underlying9 rfl (q_cell hw d0)) fun a h => ?_
          refine q_step h rfl (by decide) (wanted_none rfl) (fun w hw => x_assign rfl) fun a h => ?_
          refine q_step h rfl (by decide) (wanted_none rfl) (fun w hw => x_assign rfl) fun a h => ?_
          rintro w' hw'
          show Code.wp _ _ _ _ _
          replace h := h.pick [2, 7, 8, 9] rfl
          have e : headS m L = ((rd_T37 L (1 : Nat)).f0, L.drop 2) := by rw [headS, if_neg (by rw [hb]; decide), if_pos ⟨hp1, by simpa using h8, hb'⟩]
          have el : (L.drop 2).length = L.length - 2 := by rw [List.length_drop]
          obtain ⟨n, rfl⟩ := hw'
          refine tail_walk (L := L.drop 2) (by rw [el]; exact h) m2 (C_drop mC2 hcap hp1) (by rw [el]; omega) (mB2.trans ((quiet_below ⟨n, rfl⟩).mono mB2.size)) (Nat.le_trans (hs _ (rd_mem L 1 hp1)) (by decide)) (fun u hu => hs u (List.mem_of_mem_drop hu)) (by rw [el]; omega) ?_
          rw [e] at H
          exact H
/-! #### the names of points, walked -/
def dotP : List (ByteArray × ByteArray) := [(⟨#[46]⟩, ⟨#[239, 188, 142]⟩), (⟨#[46, 46]⟩, ⟨#[239, 188, 142, 239, 188, 142]⟩), (⟨#[239, 188, 142]⟩, ⟨#[226, 128, 155, 239, 188, 142]⟩), (⟨#[239, 188, 142, 239, 188, 142]⟩, ⟨#[226, 128, 155, 239, 188, 142, 226, 128, 155, 239, 188, 142]⟩)]
theorem dot_at (i : Nat) (h : i < 4) : ∃ d, dotP.drop i = d :: dotP.drop (i + 1) ∧ dotCells[i * 2]? = some (.string d.1) ∧ dotCells[i * 2 + 1]? = some (.string d.2) := by
  match i, h with
  | 0, _ => exact ⟨_, rfl, rfl, rfl⟩
  | 1, _ => exact ⟨_, rfl, rfl, rfl⟩
  | 2, _ => exact ⟨_, rfl, rfl, rfl⟩
  | 3, _ => exact ⟨_, rfl, rfl, rfl⟩
theorem inf42 : ∃ i, Tryd.prog.info? 42 = some i ∧ i.size = 2 := by
  have : (Tryd.prog.info? 42).map (·.size) = some 2 := by kernel_rfl
  cases e : Tryd.prog.info? 42 with
  | none => rw [e] at this; cases this
  | some i => rw [e] at this; exact ⟨i, rfl, Option.some.inj this⟩
theorem x_el40 {w : World} {l : Slots} {x y : Operand} {d : Option Tmp} {ty : TypeId} {pos : String} {aft : Array Edge} {g : Option (Nat × Bool)} {ad : Addr} {n c k : Nat} (hx : ev l x = some (.slice (some ad) n c)) (hy : ev l y = some (.int .i64 (k : Int))) (hk : k < n) :
    Ex Tryd.prog l w { dst := d, op := .indexAddr 40 x y, type := ty, pos := pos, after := aft, guard := g } (.pointer (some (ad.add (k * 2)))) w := by
  obtain ⟨i, hi, hs⟩ := inf42
  have := x_elem (P := Tryd.prog) (w := w) (d := d) (ty := ty) (pos := pos) (aft := aft) (g := g) Tryd.underlying40 hi hs hx hy (by omega) (by omega)
  rwa [Int.toNat_natCast] at this
def isDot (m : Int) : Bool := Go.bits .and .u64 m 33554432 != 0
def hit (m : Int) (s : ByteArray) (d : ByteArray × ByteArray) : Bool := isDot m && (s.toList == d.2.toList)
set_option maxRecDepth 100000 in
set_option maxHeartbeats 4000000 in
theorem dots_walk {R : Ending → World → Prop} {a : Act} {w0 w : World} {m : Int} {s : ByteArray}
    (h : Fm 186 [(1, .string s), (2, .pointer (some ⟨w0.heap.size, 0, none⟩))] a)
    (hm : w.heap[w0.heap.size]? = some (.cells #[.int .u64 m] 22 (0, 0))) (hB : Below w0.heap.size w0 w)
    (Hhit : ∀ d w', dotP.find? (hit m s) = some d → Below w0.heap.size w0 w' → R (.returned (.string d.1)) w')
    (Hno : dotP.find? (hit m s) = none → ∀ a' w', Fm 186 [(1, .string s), (2, .pointer (some ⟨w0.heap.size, 0, none⟩))] a' → w'.heap[w0.heap.size]? = some (.cells #[.int .u64 m] 22 (0, 0)) → Below w0.heap.size w0 w' →
      (piece [1, 1, 1] (Tryd.f17.body.getD .skip)).wp Tryd.prog (bodyPost Tryd.prog Tryd.f17 R) a' w') :
    (piece [1, 1] (Tryd.f17.body.getD .skip)).wp Tryd.prog (bodyPost Tryd.prog Tryd.f17 R) a w := by
  conv => arg 2; whnf
  refine wp_seq ?_
  refine wp_seq ?_
  refine wp_region_lit ?_
  refine Sym.call h rfl (by decide) (wanted_none rfl) rfl enters31 (fun a h => map0 h) ?_
  refine (dots_any w).mono ?_
  rintro e w1 ⟨rfl, hD, hb1⟩
  refine ⟨_, rfl, fun a h => ?_⟩
  refine Sym.step h rfl (by decide) (wanted_none rfl) (x_lenr Tryd.underlying40 rfl) fun a h => ?_
  refine Sym.step h rfl (by decide) (wanted_none rfl) (x_move rfl) fun a h => ?_
  refine wpList_nil ?_
  show Code.wp _ _ _ _ _
  replace h := h.pick [1, 2, 23, 24, 25] rfl
  have hm1 := oldB hb1 hm
  have hB1 := hB.trans (hb1.mono hB.size)
  clear hm hB
  clear hb1
  generalize w.heap.size = D at h hD
  refine wp_block ?_
  refine wp_loop_ghost (fun n a' W => ∃ i : Nat, i ≤ 4 ∧ n = 4 - i ∧ Fm 186 [(1, .string s), (2, .pointer (some ⟨w0.heap.size, 0, none⟩)), (23, .slice (some ⟨D, 0, none⟩) 4 4), (24, .int .i64 4), (25, .int .i64 (i : Int))] a' ∧ W.heap[w0.heap.size]? = some (.cells #[.int .u64 m] 22 (0, 0)) ∧ W.heap[D]? = some (.cells dotCells 42 (0, 0)) ∧ Below w0.heap.size w0 W ∧ dotP.find? (hit m s) = (dotP.drop i).find? (hit m s)) 4 ⟨0, by decide, rfl, by exact h, hm1, hD, hB1, rfl⟩ ?_
  clear hm1 hD hB1 h
  rintro n a W ⟨i, hi, rfl, h, hmW, hD, hB, hf⟩
  have hmc : W.cell? ⟨w0.heap.size, 0, none⟩ = some (.int .u64 m) := by simp [World.cell?, hmW]
  refine wp_seq ?_
  refine wp_region_lit ?_
  by_cases hlt : decide ((i : Int) < 4) = true
  case neg =>
    refine Sym.step h rfl (by decide) (wanted_none rfl) (Ex.to (x_lssi Tryd.underlying3 rfl rfl) (congrArg Value.bool (Bool.eq_false_iff.2 hlt))) fun a h => ?_
    refine wpList_nil ?_
    show Code.wp _ _ _ _ _
    refine wp_seq ?_
    refine wp_cond_false (h.slot 26 _ rfl) (wp_exit ?_)
    show Code.wp _ _ _ _ _
    have hi4 : i = 4 := by
      rcases Nat.lt_or_ge i 4 with h' | h'
      · exact absurd (decide_eq_true (by omega)) hlt
      · omega
    subst hi4
    exact Hno hf _ _ (h.pick [1, 2] rfl) hmW hB
  case pos =>
    have hi4 : i < 4 := by have := of_decide_eq_true hlt; omega
    obtain ⟨d, hd, g0, g1⟩ := dot_at i hi4
    refine Sym.step h rfl (by decide) (wanted_none rfl) (Ex.to (x_lssi Tryd.underlying3 rfl rfl) (congrArg Value.bool hlt)) fun a h => ?_
    refine wpList_nil ?_
    show Code.wp _ _ _ _ _
    refine wp_seq ?_
    refine wp_cond_true (h.slot 26 _ rfl) (wp_skip ?_)
    show Code.wp _ _ _ _ _
    refine wp_seq ?_
    refine wp_block ?_
    refine wp_seq ?_
    refine wp_region_lit ?_
    refine Sym.step h rfl (by decide) (wanted_none rfl) (x_el40 rfl rfl hi4) fun a h => ?_
    refine Sym.step h rfl (by decide) (wanted_none rfl) (x_load42 rfl (cell_at hD g0) (by rw [Addr.add_add]; exact cell_at hD g1)) fun a h => ?_
    refine Sym.step h rfl (by decide) (wanted_none rfl) x_alloc42 fun a h => ?_
    have hnew := heap_alloc_new W (.cells #[.string ⟨#[]⟩, .string ⟨#[]⟩] 42)
    refine Sym.effect h rfl rfl (run_store42 h rfl rfl hnew) ?_
    have hb2 : Below W.heap.size W ((W.alloc (.cells #[.string ⟨#[]⟩, .string ⟨#[]⟩] 42)).setRow W.heap.size #[.string d.1, .string d.2]) := by
      refine ((Below.refl _ W).alloc (Nat.le_refl _) _).trans ⟨rfl, rfl, rfl, by simp, fun k hk => setRow_other _ _ k _ (by omega)⟩
    have hrow := setRow_heap (W.alloc (.cells #[.string ⟨#[]⟩, .string ⟨#[]⟩] 42)) W.heap.size _ #[.string d.1, .string d.2] 42 _ hnew
    generalize (W.alloc (.cells #[.string ⟨#[]⟩, .string ⟨#[]⟩] 42)).setRow W.heap.size #[.string d.1, .string d.2] = W2 at hb2 hrow
    have hm2 := oldB hb2 hmW
    have hD2 := oldB hb2 hD
    have hB2 := hB.trans (hb2.mono hB.size)
    clear hnew hmc hmW hD hB g0 g1
    clear hb2
    generalize W.heap.size = H at h hrow
    have hmc : W2.cell? ⟨w0.heap.size, 0, none⟩ = some (.int .u64 m) := by simp [World.cell?, hm2]
    refine wpList_nil ?_
    show Code.wp _ _ _ _ _
    have next : ∀ (hn : ¬ hit m s d = true) a' , Fm 186 [(1, .string s), (2, .pointer (some ⟨w0.heap.size, 0, none⟩)), (23, .slice (some ⟨D, 0, none⟩) 4 4), (24, .int .i64 4), (25, .int .i64 (i : Int))] a' →
        (piece [1, 1, 0, 1, 0, 0, 1, 1, 1] (Tryd.f17.body.getD .skip)).wp Tryd.prog (Exit.then (fun a' w' => ∃ n', n' < 4 - i ∧ ∃ i : Nat, i ≤ 4 ∧ n' = 4 - i ∧ Fm 186 [(1, .string s), (2, .pointer (some ⟨w0.heap.size, 0, none⟩)), (23, .slice (some ⟨D, 0, none⟩) 4 4), (24, .int .i64 4), (25, .int .i64 (i : Int))] a' ∧ w'.heap[w0.heap.size]? = some (.cells #[.int .u64 m] 22 (0, 0)) ∧ w'.heap[D]? = some (.cells dotCells 42 (0, 0)) ∧ Below w0.heap.size w0 w' ∧ dotP.find? (hit m s) = (dotP.drop i).find? (hit m s)) (Exit.inBlock 0 (Exit.then (fun a w => (piece [1, 1, 1] (Tryd.f17.body.getD .skip)).wp Tryd.prog (bodyPost Tryd.prog Tryd.f17 R) a w) (bodyPost Tryd.prog Tryd.f17 R)))) a' W2 := by
      intro hn a' h
      conv => arg 2; whnf
      refine wp_region_lit ?_
      have hadd : IntKind.i64.wrap ((i : Int) + 1) = ((i + 1 : Nat) : Int) := by rw [IntKind.wrap_i64]; omega
      refine Sym.step h rfl (by decide) (wanted_none rfl) (x_addi Tryd.underlying3 rfl rfl hadd) fun a h => ?_
      refine Sym.step h rfl (by decide) (wanted_none rfl) (x_move rfl) fun a h => ?_
      refine wpList_nil ?_
      refine ⟨4 - (i + 1), by omega, i + 1, hi4, rfl, h.pick [1, 2, 23, 24, 25] rfl, hm2, hD2, hB2, ?_⟩
      rw [hf, hd, List.find?_cons_of_neg hn]
    refine wp_seq ?_
    refine wp_region_lit ?_
    by_cases hdot : (Go.bits .and .u64 m 33554432 != 0) = true
    case neg =>
      refine Sym.step h rfl (by decide) (wanted_none rfl) (x_loadi Tryd.underlying22 rfl hmc) fun a h => ?_
      refine Sym.step h rfl (by decide) (wanted_none rfl) (x_andi Tryd.underlying22 rfl rfl) fun a h => ?_
      refine Sym.step h rfl (by decide) (wanted_none rfl) (Ex.to (x_neqi Tryd.underlying22 rfl rfl) (congrArg Value.bool (Bool.eq_false_iff.2 hdot))) fun a h => ?_
      refine Sym.step h rfl (by decide) (wanted_none rfl) (x_move rfl) fun a h => ?_
      refine Sym.off h rfl (by decide) (woff h rfl rfl rfl (by decide)) fun a h => ?_
      refine Sym.off h rfl (by decide) (woff h rfl rfl rfl (by decide)) fun a h => ?_
      refine Sym.off h rfl (by decide) (woff h rfl rfl rfl (by decide)) fun a h => ?_
      refine Sym.off h rfl (by decide) (woff h rfl rfl rfl (by decide)) fun a h => ?_
      refine Sym.step h rfl (by decide) (wanted_none rfl) (x_pick_f rfl rfl rfl) fun a h => ?_
      refine wpList_nil ?_
      show Code.wp _ _ _ _ _
      refine wp_cond_false (h.slot 37 _ rfl) (wp_skip ?_)
      exact next (by rw [hit, isDot, Bool.eq_false_iff.2 hdot, Bool.false_and]; decide) _ (h.pick [1, 2, 23, 24, 25] rfl)
    case pos =>
      have hc0 : W2.cell? ((⟨H, 0, none⟩ : Addr).add 0) = some (.string d.1) := cell_at hrow rfl
      have hc1 : W2.cell? ((⟨H, 0, none⟩ : Addr).add 1) = some (.string d.2) := cell_at hrow rfl
      by_cases heq : (s.toList == d.2.toList) = true
      case neg =>
        refine Sym.step h rfl (by decide) (wanted_none rfl) (x_loadi Tryd.underlying22 rfl hmc) fun a h => ?_
        refine Sym.step h rfl (by decide) (wanted_none rfl) (x_andi Tryd.underlying22 rfl rfl) fun a h => ?_
        refine Sym.step h rfl (by decide) (wanted_none rfl) (Ex.to (x_neqi Tryd.underlying22 rfl rfl) (congrArg Value.bool hdot)) fun a h => ?_
        refine Sym.step h rfl (by decide) (wanted_none rfl) (x_move rfl) fun a h => ?_
        refine Sym.step h rfl (by decide) (won h rfl rfl rfl (by decide)) (x_move rfl) fun a h => ?_
        refine Sym.step h rfl (by decide) (won h rfl rfl rfl (by decide)) (x_arr42 (k := 1) (by decide) rfl rfl) fun a h => ?_
        refine Sym.step h rfl (by decide) (won h rfl rfl rfl (by decide)) (x_loads Tryd.underlying9 rfl hc1) fun a h => ?_
        refine Sym.step h rfl (by decide) (won h rfl rfl rfl (by decide)) (Ex.to (x_eqls Tryd.underlying9 rfl rfl) (congrArg Value.bool (Bool.eq_false_iff.2 heq))) fun a h => ?_
        refine Sym.step h rfl (by decide) (wanted_none rfl) (x_pick_t rfl rfl rfl) fun a h => ?_
        refine wpList_nil ?_
        show Code.wp _ _ _ _ _
        refine wp_cond_false (h.slot 37 _ rfl) (wp_skip ?_)
        exact next (by rw [hit, Bool.eq_false_iff.2 heq, Bool.and_false]; decide) _ (h.pick [1, 2, 23, 24, 25] rfl)
      case pos =>
        refine Sym.step h rfl (by decide) (wanted_none rfl) (x_loadi Tryd.underlying22 rfl hmc) fun a h => ?_
        refine Sym.step h rfl (by decide) (wanted_none rfl) (x_andi Tryd.underlying22 rfl rfl) fun a h => ?_
        refine Sym.step h rfl (by decide) (wanted_none rfl) (Ex.to (x_neqi Tryd.underlying22 rfl rfl) (congrArg Value.bool hdot)) fun a h => ?_
        refine Sym.step h rfl (by decide) (wanted_none rfl) (x_move rfl) fun a h => ?_
        refine Sym.step h rfl (by decide) (won h rfl rfl rfl (by decide)) (x_move rfl) fun a h => ?_
        refine Sym.step h rfl (by decide) (won h rfl rfl rfl (by decide)) (x_arr42 (k := 1) (by decide) rfl rfl) fun a h => ?_
        refine Sym.step h rfl (by decide) (won h rfl rfl rfl (by decide)) (x_loads Tryd.underlying9 rfl hc1) fun a h => ?_
        refine Sym.step h rfl (by decide) (won h rfl rfl rfl (by decide)) (Ex.to (x_eqls Tryd.underlying9 rfl rfl) (congrArg Value.bool heq)) fun a h => ?_
        refine Sym.step h rfl (by decide) (wanted_none rfl) (x_pick_t rfl rfl rfl) fun a h => ?_
        refine wpList_nil ?_
        show Code.wp _ _ _ _ _
        refine wp_cond_true (h.slot 37 _ rfl) ?_
        refine wp_seq ?_
        refine wp_region_lit ?_
        refine Sym.step h rfl (by decide) (wanted_none rfl) (x_arr42 (k := 0) (by decide) rfl rfl) fun a h => ?_
        refine Sym.step h rfl (by decide) (wanted_none rfl) (x_loads Tryd.underlying9 rfl hc0) fun a h => ?_
        refine Sym.step h rfl (by decide) (wanted_none rfl) (x_assign rfl) fun a h => ?_
        refine wpList_nil ?_
        show Code.wp _ _ _ _ _
        refine wp_ret ?_
        show bodyPost Tryd.prog Tryd.f17 R .ret _ _
        refine ret_slot h rfl (by decide) rfl (Hhit d _ ?_ hB2)
        rw [hf, hd, List.find?_cons_of_pos (by rw [hit, isDot, hdot, heq]; rfl)]

end Go.Proofs.YtlgoghonnnobfaaDoor.Snd
