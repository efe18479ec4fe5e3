/- MultiEncoder.Decode: its loop, its head and tail, and the whole of it. -/
import Derived.Test.YtlgoghonnnobfaaDoorMc
import Derived.Test.YtlgoghonnnobfaaDoorMb
namespace Go.Proofs.YtlgoghonnnobfaaDoor.Dec
open Go Go.RowKit Go.Proofs.YtlgoghonnnobfaaDoor.Fr Go.Proofs.YtlgoghonnnobfaaDoor.Enc
set_option linter.unusedVariables false
set_option linter.unusedSimpArgs false
/-! ### the decoder's loop, and what stands behind it -/
/-- What a sign at a place writes, and the two marks behind it. -/
def dat (m : Int) (s : ByteArray) (pos : Nat) (un : Bool) : List UInt8 × Bool × Bool :=
  dstep m ((Utf8.decode s pos).1 : Int) un (s.extract pos (pos + (Utf8.decode s pos).2)).toList (s.extract pos s.size)
def decFrom (m : Int) (s : ByteArray) : Nat → Nat → Bool → Bool → List UInt8 × Bool
  | 0, _, un, _ => ([], un)
  | f + 1, pos, un, sk =>
    if pos < s.size then
      if sk = true then decFrom m s f (pos + (Utf8.decode s pos).2) un false
      else ((dat m s pos un).1 ++ (decFrom m s f (pos + (Utf8.decode s pos).2) (dat m s pos un).2.1 (dat m s pos un).2.2).1, (decFrom m s f (pos + (Utf8.decode s pos).2) (dat m s pos un).2.1 (dat m s pos un).2.2).2)
    else ([], un)
/-- A text, sign by sign, as a mask reads it. -/
def decAll (m : Int) (s : ByteArray) : List UInt8 := (decFrom m s s.size 0 false false).1 ++ (if (decFrom m s s.size 0 false false).2 = true then Lib.encodeRune 8219 else [])
theorem decFrom_end (m : Int) (s : ByteArray) (f pos : Nat) (un sk : Bool) (h : ¬ pos < s.size) : decFrom m s f pos un sk = ([], un) := by
  cases f <;> simp [decFrom, h]
theorem decBy_len {m r : Int} {uq : Bool} {l : List UInt8} : ∀ {t : List Bit}, decBy m r uq t = some l → l.length ≤ 4
  | [], h => by cases h
  | b :: t, h => by
    rw [decBy] at h
    split at h
    · injection h with h; rw [← h]; exact rune_len _
    · exact decBy_len h
theorem dstep_len (m r : Int) (un : Bool) (raw : List UInt8) (rest : ByteArray) (h : raw.length ≤ 4) : (dstep m r un raw rest).1.length ≤ 8 := by
  unfold dstep
  split
  · have := rune_len (if un = true then r else 0); simp only; omega
  · split
    · simp only
      split
      · have := rune_len r; omega
      · simp
    · split
      · rename_i l hl
        have := decBy_len hl
        simp only; omega
      · split
        · simp
        · simp only
          rw [List.length_append]
          have h1 : (if un = true then Lib.encodeRune 8219 else []).length ≤ 3 := by split <;> simp [q_len]
          have h2 : (if r = 65533 then raw else Lib.encodeRune r).length ≤ 4 := by split; exact h; exact rune_len _
          omega
theorem ret30 {R : Ending → World → Prop} {a : Act} {w : World} {v : Value} (hd : a.defers = []) (h : a.eval (.tmp 4) = v) (hR : R (.returned v) w) : bodyPost Tryd.prog Tryd.f30 R .ret a w := by
  refine ⟨hd, v, ?_, hR⟩
  have e : Tryd.f30.results = #[.tmp 4] := by kernel_rfl
  unfold results
  rw [e]
  have h' : a.tmps.getD 4 undef = v := h
  rw [Array.getD_eq_getD_getElem?] at h'
  simp [h']
theorem dat_at (s : ByteArray) (pos : Nat) (hp : pos < s.size) : Lib.decodeGo (s.extract pos s.size) = Utf8.decode s pos := by
  unfold Lib.decodeGo
  rw [if_neg (by rw [Lib.tail_size]; omega), Lib.tail_decode, Nat.add_zero]
theorem dat_le4 (s : ByteArray) (pos : Nat) (hp : pos < s.size) : (Utf8.decode s pos).2 ≤ 4 := by
  rw [← dat_at s pos hp]; exact Lib.decodeGo_le4 _
/-- What stands of the frame ahead of the loop. -/
structure PD (s suf : ByteArray) (pm pb : Addr) (a : Act) : Prop where
  size : a.tmps.size = 553
  s1 : a.eval (.tmp 1) = .string s
  s2 : a.eval (.tmp 2) = .pointer (some pm)
  s10 : a.eval (.tmp 10) = .string suf
  s20 : a.eval (.tmp 20) = .pointer (some pb)
  defers : a.defers = []
set_option maxRecDepth 100000 in
set_option maxHeartbeats 2000000 in
theorem dtail_walk {R : Ending → World → Prop} {s suf : ByteArray} {a : Act} {w0 w : World} {m : Int} {acc : List UInt8} {b : Nat} (hT : Lib.Utf8Tabs 0 1 w0) (hS : Syn w0) (hbw : w0.heap.size < b)
    (hA : PD s suf ⟨w0.heap.size, 0, none⟩ ⟨b, 0, none⟩ a) (hK : K w0 m b acc w) (hs : s.size ≤ 1000000) (hsuf : suf.size ≤ 1000000) (hacc : acc.length ≤ 1000000)
    (H : ∀ w', Below w0.heap.size w0 w' → R (.returned (.string ⟨(acc ++ decAll m s ++ suf.data.toList).toArray⟩)) w') :
    (piece [1, 1, 1, 1, 1, 1, 1, 1, 1, 1, 1, 1, 1, 1, 1] (Tryd.f30.body.getD .skip)).wp Tryd.prog (bodyPost Tryd.prog Tryd.f30 R) a w := by
  have hz := hA.size
  have hbl : w0.heap.size < w.heap.size := (Array.getElem?_eq_some_iff.1 hK.box).1
  conv => arg 2; whnf
  refine wp_seq ?_
  refine wp_region_lit ?_
  refine lassign (v := .bool false) rfl ?_
  refine lassign (v := .bool false) rfl ?_
  refine lassign (v := .bool false) rfl ?_
  refine wpList_nil ?_
  show Code.wp _ _ _ _ _
  refine wp_seq ?_
  refine wp_seq ?_
  refine wp_region_lit ?_
  refine lmove (v := .string s) (by rw [eval_other _ _ _ _ (by decide), eval_other _ _ _ _ (by decide), eval_other _ _ _ _ (by decide)]; exact hA.s1) ?_
  refine Fr.step rfl (run_range (s := s) Tryd.underlying9 (eval_same _ _ _ (by simp only [size_put]; omega))) ?_
  refine wpList_nil ?_
  show Code.wp _ _ _ _ _
  have hJ0 : J w0 m s b w.heap.size 0 acc (w.alloc (.stringIter s 0)) := by
    have hb : Below w.heap.size w (w.alloc (.stringIter s 0)) := (Below.refl _ w).alloc (Nat.le_refl _) _
    exact ⟨hK.buf.old hb, heap_alloc_new w _, old_block hb hK.box, hK.below.trans (hb.mono hK.below.size)⟩
  have o5 : ∀ (k : Nat) (v : Value), k ≠ 21 → k ≠ 22 → k ≠ 23 → k ≠ 286 → k ≠ 287 → a.eval (.tmp k) = v → (((((a.put (some 21) (.bool false)).put (some 22) (.bool false)).put (some 23) (.bool false)).put (some 286) (.string s)).put (some 287) (.pointer (some ⟨w.heap.size, 0, none⟩))).eval (.tmp k) = v := fun k v h1 h2 h3 h4 h5 h => by
    rw [eval_other _ _ _ _ h5, eval_other _ _ _ _ h4, eval_other _ _ _ _ h3, eval_other _ _ _ _ h2, eval_other _ _ _ _ h1]; exact h
  have hL0 : DS false false s suf ⟨w0.heap.size, 0, none⟩ ⟨b, 0, none⟩ ⟨w.heap.size, 0, none⟩ (((((a.put (some 21) (.bool false)).put (some 22) (.bool false)).put (some 23) (.bool false)).put (some 286) (.string s)).put (some 287) (.pointer (some ⟨w.heap.size, 0, none⟩))) :=
    ⟨by simp only [size_put]; exact hz, o5 1 _ (by decide) (by decide) (by decide) (by decide) (by decide) hA.s1, o5 2 _ (by decide) (by decide) (by decide) (by decide) (by decide) hA.s2, o5 10 _ (by decide) (by decide) (by decide) (by decide) (by decide) hA.s10, o5 20 _ (by decide) (by decide) (by decide) (by decide) (by decide) hA.s20, eval_same _ _ _ (by simp only [size_put]; omega), by rw [eval_other _ _ _ _ (by decide), eval_other _ _ _ _ (by decide), eval_other _ _ _ _ (by decide)]; exact eval_same _ _ _ (by simp only [size_put]; omega), by rw [eval_other _ _ _ _ (by decide), eval_other _ _ _ _ (by decide)]; exact eval_same _ _ _ (by simp only [size_put]; omega), by simp only [defers_put]; exact hA.defers⟩
  clear o5
  generalize (((((a.put (some 21) (.bool false)).put (some 22) (.bool false)).put (some 23) (.bool false)).put (some 286) (.string s)).put (some 287) (.pointer (some ⟨w.heap.size, 0, none⟩))) = a0 at hL0
  generalize w.alloc (.stringIter s 0) = w1 at hJ0
  generalize hit : w.heap.size = it at hJ0 hL0 hbl
  clear hit hK hz hA a
  have HE := fun pos => J.env (m := m) (s := s) (b := b) (it := it) (pos := pos) hT hbw (fun acc w c hl hj => quote_walk hbw acc w c hl hj)
  have HU : ∀ pos, Unq 140737488355000 ⟨b, 0, none⟩ (J w0 m s b it pos) := fun pos acc w t hl hj => unq51 hS hbw acc w t hl hj
  refine wp_block ?_
  refine wp_loop_ghost (fun n a' w' => ∃ pos acc' un sk, n + pos = s.size + 1 ∧ DS un sk s suf ⟨w0.heap.size, 0, none⟩ ⟨b, 0, none⟩ ⟨it, 0, none⟩ a' ∧ J w0 m s b it pos acc' w' ∧ acc'.length ≤ 1000000 + 8 * pos ∧ pos ≤ s.size ∧ ∃ f, s.size ≤ pos + f ∧ (acc' ++ (decFrom m s f pos un sk).1, (decFrom m s f pos un sk).2) = (acc ++ (decFrom m s s.size 0 false false).1, (decFrom m s s.size 0 false false).2)) (s.size + 1) ⟨0, acc, false, false, by omega, hL0, hJ0, by omega, by omega, s.size, by omega, rfl⟩ ?_
  clear hL0 hJ0
  rintro n a1 w1 ⟨pos, acc1, un, sk, hn, hL, hJ, hal, hps, f, hf, hsum⟩
  have hz := hL.size
  refine wp_seq ?_
  by_cases hp : pos < s.size
  · refine wp_region_lit ?_
    refine Fr.step rfl (run_next hL.iter (Lib.run_next_any_at w1 it s pos 0 hJ.iter hp)) ?_
    refine Fr.step rfl (run_extract (v := .bool true) (eval_same _ _ _ (by omega)) (by rfl)) ?_
    refine wpList_nil ?_
    show Code.wp _ _ _ _ _
    have hJ2 := hJ.next (pos + (Utf8.decode s pos).2) hbl
    have e288 : ((a1.put (some 288) (.tuple #[.bool true, .int .i64 (pos : Int), .int .i32 ((Utf8.decode s pos).1 : Int)])).put (some 289) (.bool true)).eval (.tmp 288) = .tuple #[.bool true, .int .i64 (pos : Int), .int .i32 ((Utf8.decode s pos).1 : Int)] := by
      rw [eval_other _ _ _ _ (by decide)]; exact eval_same _ _ _ (by omega)
    have hL2 := (hL.put 288 (.tuple #[.bool true, .int .i64 (pos : Int), .int .i32 ((Utf8.decode s pos).1 : Int)]) (by decide)).put 289 (.bool true) (by decide)
    refine wp_seq ?_
    refine wp_cond_true (eval_same _ _ _ (by simp only [size_put]; omega)) (wp_skip ?_)
    show Code.wp _ _ _ _ _
    generalize ((a1.put (some 288) (.tuple #[.bool true, .int .i64 (pos : Int), .int .i32 ((Utf8.decode s pos).1 : Int)])).put (some 289) (.bool true)) = a2 at e288 hL2
    generalize w1.iterAt it s (pos + (Utf8.decode s pos).2) = w2 at hJ2
    have hfit := dec_fit s pos hp
    have hpos := dec_pos s pos hp
    have h4 := dat_le4 s pos hp
    have hrl := Lib.rune_le s pos
    have hlen : (s.extract pos (pos + (Utf8.decode s pos).2)).toList.length ≤ 4 := by
      rw [Lib.toList_data]
      show (s.extract pos (pos + (Utf8.decode s pos).2)).size ≤ 4
      simp [ByteArray.size_extract]; omega
    have hdl := dstep_len m ((Utf8.decode s pos).1 : Int) un (s.extract pos (pos + (Utf8.decode s pos).2)).toList (s.extract pos s.size) hlen
    obtain ⟨f', rfl⟩ : ∃ f', f = f' + 1 := ⟨f - 1, by omega⟩
    rw [decFrom, if_pos hp] at hsum
    refine wp_block ?_
    refine dround2 (l := (Utf8.decode s pos).2) (HE _) (HU _) (by omega) hL2 hJ2 e288 (by omega) (by omega) (by omega) hp (by rw [dat_at s pos hp]) hfit h4 ?_ ?_
    · intro hsk a3 hD
      rw [if_pos hsk] at hsum
      show Exit.inBlock 2 _ (.exit 2) a3 w2
      rw [Exit.inBlock, if_pos rfl]
      exact ⟨n - (Utf8.decode s pos).2, by omega, pos + (Utf8.decode s pos).2, acc1, un, false, by omega, hD, hJ2, by omega, hfit, f', by omega, hsum⟩
    · intro hsk e a3 w3 he hD hJ3
      rw [if_neg (by rw [hsk]; decide)] at hsum
      have fin : ∃ n', n' < n ∧ ∃ pos acc' un sk, n' + pos = s.size + 1 ∧ DS un sk s suf ⟨w0.heap.size, 0, none⟩ ⟨b, 0, none⟩ ⟨it, 0, none⟩ a3 ∧ J w0 m s b it pos acc' w3 ∧ acc'.length ≤ 1000000 + 8 * pos ∧ pos ≤ s.size ∧ ∃ f, s.size ≤ pos + f ∧ (acc' ++ (decFrom m s f pos un sk).1, (decFrom m s f pos un sk).2) = (acc ++ (decFrom m s s.size 0 false false).1, (decFrom m s s.size 0 false false).2) :=
        ⟨n - (Utf8.decode s pos).2, by omega, pos + (Utf8.decode s pos).2, _, _, _, by omega, hD, hJ3, by rw [List.length_append]; omega, hfit, f', by omega, by rw [← hsum, List.append_assoc]; rfl⟩
      rcases he with rfl | rfl
      · rw [Exit.inBlock, if_pos rfl]; exact fin
      · exact fin
  · refine wp_region_lit ?_
    refine Fr.step rfl (run_next hL.iter (Lib.run_next_end_at w1 it s pos 0 hJ.iter hp)) ?_
    refine Fr.step rfl (run_extract (v := .bool false) (eval_same _ _ _ (by omega)) (by rfl)) ?_
    refine wpList_nil ?_
    show Code.wp _ _ _ _ _
    have hL2 := (hL.put 288 (.tuple #[.bool false]) (by decide)).put 289 (.bool false) (by decide)
    refine wp_seq ?_
    refine wp_cond_false (eval_same _ _ _ (by simp only [size_put]; omega)) (wp_exit ?_)
    generalize ((a1.put (some 288) (.tuple #[.bool false])).put (some 289) (.bool false)) = a2 at hL2
    show Code.wp _ _ _ _ _
    rw [decFrom_end m s f pos un sk hp, List.append_nil] at hsum
    have hs1 : acc1 = acc ++ (decFrom m s s.size 0 false false).1 := congrArg Prod.fst hsum
    have hs2 : un = (decFrom m s s.size 0 false false).2 := congrArg Prod.snd hsum
    have hz2 := hL2.size
    have last : ∀ (a3 : Act) (w3 : World), DS un sk s suf ⟨w0.heap.size, 0, none⟩ ⟨b, 0, none⟩ ⟨it, 0, none⟩ a3 → J w0 m s b it pos (acc ++ decAll m s) w3 → (piece [1, 1, 1, 1, 1, 1, 1, 1, 1, 1, 1, 1, 1, 1, 1, 1, 1, 1] (Tryd.f30.body.getD .skip)).wp Tryd.prog (bodyPost Tryd.prog Tryd.f30 R) a3 w3 := by
      intro a3 w3 hL3 hJ3
      have hz3 := hL3.size
      conv => arg 2; whnf
      refine wp_seq ?_
      refine wp_region_lit ?_
      refine lmove (v := .string suf) hL3.suf ?_
      refine call enters46 ?_
      have e : (#[Operand.tmp 20, .tmp 550]).map (a3.put (some 550) (.string suf)).eval = #[.pointer (some ⟨b, 0, none⟩), .string suf] := by
        simp [eval_same _ _ _ (show 550 < a3.tmps.size by omega), eval_other _ 550 20 _ (by decide), hL3.buf]
      rw [e]
      have hlen : (acc ++ decAll m s).length ≤ 1000000 + 8 * s.size + 3 := by
        unfold decAll
        rw [← List.append_assoc, ← hs1, List.length_append]
        have : (if (decFrom m s s.size 0 false false).2 = true then Lib.encodeRune 8219 else []).length ≤ 3 := by split <;> simp [q_len]
        omega
      refine ((HE pos).text (acc ++ decAll m s) w3 suf (by omega) hJ3).mono ?_
      rintro e w4 ⟨v, rfl, hJ4⟩
      refine ⟨_, rfl, wpList_nil ?_⟩
      show Code.wp _ _ _ _ _
      have hL4 := (hL3.put 550 (.string suf) (by decide)).put 551 v (by decide)
      generalize (a3.put (some 550) (.string suf)).put (some 551) v = a4 at hL4
      have hz4 := hL4.size
      refine wp_seq ?_
      refine wp_region_lit ?_
      refine call enters49 ?_
      have e : (#[Operand.tmp 20]).map a4.eval = #[.pointer (some ⟨b, 0, none⟩)] := by simp [hL4.buf]
      rw [e]
      refine (Shelf.Tryd.Buffer_String w0.heap.size b (acc ++ decAll m s ++ suf.data.toList) w4 hJ4.buf).mono ?_
      rintro e w5 ⟨rfl, q, rfl⟩
      refine ⟨_, rfl, ?_⟩
      refine assign ?_
      refine wpList_nil ?_
      show Code.wp _ _ _ _ _
      refine wp_ret ?_
      rw [eval_same _ _ _ (by omega)]
      refine ret30 (by rw [defers_put, defers_put]; exact hL4.defers) (eval_same _ _ _ (by rw [size_put]; omega)) ?_
      exact H _ (hJ4.below.trans ((below_drewN w4 q).mono hJ4.below.size))
    refine wp_seq ?_
    refine wp_seq (r_move ?_)
    show Code.wp _ _ _ _ _
    rw [hL2.un]
    refine wp_cond (eval_same _ _ _ (by omega)) ?_
    have hL3 := hL2.put 548 (.bool un) (by decide)
    generalize a2.put (some 548) (.bool un) = a3 at hL3
    have hz3 := hL3.size
    cases hu : un with
    | false =>
      rw [if_neg (by decide)]
      refine wp_skip ?_
      refine last _ _ hL3 ?_
      unfold decAll
      rw [← hs2, hu, if_neg (by decide), List.append_nil, ← hs1]
      exact hJ
    | true =>
      rw [if_pos rfl]
      refine wp_region_lit ?_
      refine call enters47 ?_
      have e : (#[Operand.tmp 20, .const (.int .i32 8219)]).map a3.eval = #[.pointer (some ⟨b, 0, none⟩), .int .i32 8219] := by simp [hL3.buf, eval_const]
      rw [e]
      refine ((HE pos).env.write acc1 w1 8219 (by omega) hJ (by decide) (by decide)).mono ?_
      rintro e w3 ⟨v, rfl, hJ3⟩
      refine ⟨_, rfl, wpList_nil ?_⟩
      refine last _ _ (hL3.put 549 v (by decide)) ?_
      unfold decAll
      rw [← hs2, hu, if_pos rfl, ← List.append_assoc, ← hs1]
      exact hJ3
end Go.Proofs.YtlgoghonnnobfaaDoor.Dec
namespace Go.Proofs.YtlgoghonnnobfaaDoor.Enc
open Go Go.RowKit Go.Proofs.YtlgoghonnnobfaaDoor.Fr
set_option linter.unusedVariables false
set_option linter.unusedSimpArgs false
theorem cell_drewN' (w : World) (n : Nat) (p : Addr) : (w.drewN n).cell? p = w.cell? p := by
  induction n generalizing w with
  | zero => rfl
  | succ n ih => exact ih _
theorem frozen_drewN' (w : World) (n : Nat) (p : Addr) : (w.drewN n).frozen? p = w.frozen? p := by
  induction n generalizing w with
  | zero => rfl
  | succ n ih => exact ih _
theorem heap_drewN' (w : World) (n : Nat) : (w.drewN n).heap = w.heap := by
  induction n generalizing w with
  | zero => rfl
  | succ n ih => exact ih _
theorem tg0 (b : Nat) (W : World) (c0 : W.cell? ⟨b, 0, none⟩ = some (.slice none 0 0)) (f0 : W.frozen? ⟨b, 0, none⟩ = false) : Calls Tryd.prog 64 #[.pointer (some ⟨b, 0, none⟩), .int .i64 0] W fun e w' => e = .returned (.tuple #[.int .i64 0, .bool true]) ∧ w' = W.setCell ⟨b, 0, none⟩ (.slice none 0 0) :=
  Shelf.Tryd.Buffer_tryGrow_room b none 0 0 0 W c0 f0 (Nat.le_refl _) (by decide) (by decide)
set_option maxHeartbeats 1000000 in
theorem grow63_0 (B b : Nat) (w : World) (hB : B ≤ b) (hbk : w.heap[b]? = some (.cells #[.slice none 0 0, .int .i64 0, .int .i8 0] 56 (0, 0))) :
    Calls Tryd.prog 63 #[.pointer (some ⟨b, 0, none⟩), .int .i64 0] w fun e w' => e = .returned (.int .i64 0) ∧ ∃ n, w' = (w.drewN n).setCell ⟨b, 0, none⟩ (.slice none 0 0) := by
  have hb : Lib.IsBuffer 56 5 B b [] w := ⟨hB, .slice none 0 0, 0, hbk, World.ownsRow_nil _ _ _ _, by simp [Value.ownBlock]⟩
  have HL := Lib.hid (Shelf.Tryd.Buffer_Len B b [] w hb)
  have HF : Hid (∀ n, ∃ W, w.drewN n = W ∧ W.cell? ⟨b, 0, none⟩ = some (.slice none 0 0) ∧ W.cell? ⟨b, 1, none⟩ = some (.int .i64 0) ∧ W.frozen? ⟨b, 0, none⟩ = false) := Lib.hid fun n => ⟨_, rfl, (cell_drewN' w n _).trans (Lib.cell_of_heap hbk 0), (cell_drewN' w n _).trans (Lib.cell_of_heap hbk 1), (frozen_drewN' w n _).trans (by simp [World.frozen?, hbk])⟩
  clear hb hbk
  go_enter Tryd.func63, Tryd.ntmps63
  go_wp2_with (first | (go_at_call 73; (with_reducible refine HL.out.mono ?_); rintro e w1 ⟨rfl, n, rfl⟩; obtain ⟨W, hW, c0, c1, f0⟩ := HF.out n; rw [hW]; have HWW := Lib.hid hW; clear hW) | (go_at_call 64; (with_reducible refine (tg0 b W c0 f0).mono ?_); rintro e w1 ⟨rfl, rfl⟩))
  go_ret
  exact ⟨rfl, n, by rw [HWW.out]⟩
set_option maxHeartbeats 1000000 in
/-- Grow by nothing. -/
theorem grow45_0 (B b : Nat) (w : World) (hB : B ≤ b) (hBw : B ≤ w.heap.size) (hbk : w.heap[b]? = some (.cells #[.slice none 0 0, .int .i64 0, .int .i8 0] 56 (0, 0))) :
    Calls Tryd.prog 45 #[.pointer (some ⟨b, 0, none⟩), .int .i64 0] w fun e w' => (∃ v, e = .returned v) ∧ Lib.IsBuffer 56 5 B b [] w' ∧ Below B w w' ∧ Lib.OthersKept 5 (some b) w w' := by
  have HG := Lib.hid (grow63_0 B b w hB hbk)
  have hb1 : ∀ n, ((w.drewN n).setCell ⟨b, 0, none⟩ (.slice none 0 0)).heap[b]? = some (.cells #[.slice none 0 0, .int .i64 0, .int .i8 0] 56 (0, 0)) := fun n => by rw [Joins.block_setCell (by rw [heap_drewN']; exact hbk)]; rfl
  have HH := Lib.hid hb1
  have c0 := fun n => Lib.cell_of_heap (hb1 n) 0
  have f0 : ∀ n, ((w.drewN n).setCell ⟨b, 0, none⟩ (.slice none 0 0)).frozen? ⟨b, 0, none⟩ = false := fun n => by simp only [World.frozen?, hb1 n]; rfl
  have HW := Lib.hid (fun n => And.intro (((below_drewN w n).mono hBw).setCell (p := ⟨b, 0, none⟩) hB (.slice none 0 0)) ((show Lib.OthersKept 5 (some b) w (w.drewN n) from fun k o h _ _ => by rw [heap_drewN']; exact h).setCell ⟨b, 0, none⟩ rfl (.slice none 0 0)))
  clear hbk hb1
  go_enter Tryd.func45, Tryd.ntmps45
  go_wp2_with (go_at_call 63; (with_reducible refine HG.out.mono ?_); rintro e w2 ⟨rfl, n, rfl⟩; have c0 := c0 n; have f0 := f0 n; have HH := Lib.hid (HH.out n); have HW := Lib.hid (HW.out n); generalize (w.drewN n).setCell ⟨b, 0, none⟩ (.slice none 0 0) = w3 at c0 f0 HH HW ⊢)
  go_end0
  obtain ⟨q1, q2⟩ := HW.out
  refine ⟨⟨_, rfl⟩, ?_, q1.setCell hB _, q2.setCell _ rfl _⟩
  exact ⟨hB, .slice none 0 0, 0, by rw [Joins.block_setCell HH.out]; rfl, World.ownsRow_nil _ _ _ _, by simp [Value.ownBlock]⟩
end Go.Proofs.YtlgoghonnnobfaaDoor.Enc
namespace Go.Proofs.YtlgoghonnnobfaaDoor.Dec
open Go Go.RowKit Go.Proofs.YtlgoghonnnobfaaDoor.Fr Go.Proofs.YtlgoghonnnobfaaDoor.Enc
set_option linter.unusedVariables false
set_option linter.unusedSimpArgs false
/-! ### the decoder's head and tail -/
/-- Is it the picture of a control character of the left and of the right. -/
def isS (r : Nat) : Bool := decide (9216 ≤ r) && isCtl (r - 9216)
/-- A byte as a text. -/
def one (c : Nat) : ByteArray := ⟨#[UInt8.ofNat c]⟩
/-- The character for which a sign stands at the left. -/
def dleft (m : Int) (r : Nat) : Option ByteArray :=
  if (hb m 131072 && ((r : Int) == 9248)) = true then some ⟨#[32]⟩ else if (hb m 262144 && ((r : Int) == 65294)) = true then some ⟨#[46]⟩ else if (hb m 524288 && ((r : Int) == 65374)) = true then some ⟨#[126]⟩ else if (hb m 1048576 && isS r) = true then some (one (r - 9216)) else none
/-- The sign itself, behind a quote. -/
def dleftq (m : Int) (r : Nat) : Option ByteArray :=
  if (hb m 131072 && ((r : Int) == 9248)) = true then some ⟨#[226, 144, 160]⟩ else if (hb m 262144 && ((r : Int) == 65294)) = true then some ⟨#[239, 188, 142]⟩ else if (hb m 524288 && ((r : Int) == 65374)) = true then some ⟨#[239, 189, 158]⟩ else if (hb m 1048576 && isS r) = true then some (sgn (r - 9216)) else none
def cut (s : ByteArray) (n : Nat) : ByteArray := s.extract n s.size
def dheads (m : Int) (s : ByteArray) : ByteArray × ByteArray :=
  match dleft m (Lib.decodeGo s).1 with
  | some h => (h, cut s (Lib.decodeGo s).2)
  | none =>
    if (((Lib.decodeGo s).1 : Int) == 8219) = true then
      match dleftq m (Lib.decodeGo (cut s (Lib.decodeGo s).2)).1 with
      | some h => (h, cut s ((Lib.decodeGo s).2 + (Lib.decodeGo (cut s (Lib.decodeGo s).2)).2))
      | none => (⟨#[]⟩, s)
    else (⟨#[]⟩, s)
/-- The character for which a sign stands at the right, and the sign itself. -/
def dright (m : Int) (r : Nat) : Option (ByteArray × ByteArray) :=
  if (hb m 2097152 && ((r : Int) == 9248)) = true then some (⟨#[32]⟩, ⟨#[226, 144, 160]⟩) else if (hb m 4194304 && ((r : Int) == 65294)) = true then some (⟨#[46]⟩, ⟨#[239, 188, 142]⟩) else if (hb m 8388608 && isS r) = true then some (one (r - 9216), sgn (r - 9216)) else none
def lst (s : ByteArray) : Nat × Nat := Lib.decodeLastL s.data.toList
def dtails (m : Int) (s : ByteArray) : ByteArray × ByteArray :=
  match dright m (lst s).1 with
  | some h =>
    if (((lst (s.extract 0 (s.size - (lst s).2))).1 : Int) == 8219) = true then
      (h.2, (s.extract 0 (s.size - (lst s).2)).extract 0 ((s.extract 0 (s.size - (lst s).2)).size - (lst (s.extract 0 (s.size - (lst s).2))).2))
    else (h.1, s.extract 0 (s.size - (lst s).2))
  | none => (⟨#[]⟩, s)
theorem isS_conv {r : Nat} (h : isS r = true) : IntKind.i32.wrap ((r : Int) - 9216) = ((r - 9216 : Nat) : Int) ∧ (∀ w, (convert 21 9 (.int .i32 ((r - 9216 : Nat) : Int))).run Tryd.prog w = .ok (.string (one (r - 9216))) w) ∧ (∀ w, (convert 21 9 (.int .i32 (r : Int))).run Tryd.prog w = .ok (.string (sgn (r - 9216))) w) := by
  simp only [isS, Bool.and_eq_true, decide_eq_true_eq] at h
  obtain ⟨c, rfl⟩ : ∃ c, r = 9216 + c := ⟨r - 9216, by omega⟩
  rw [Nat.add_sub_cancel_left] at h ⊢
  rcases ctl_cases h.2 with rfl | rfl | rfl | rfl
  all_goals exact ⟨by decide, fun w => by kernel_rfl, fun w => by kernel_rfl⟩
theorem isS_eq (r : Nat) : ((r : Int) == 9225 || (r : Int) == 9226 || (r : Int) == 9227 || (r : Int) == 9229) = isS r := ctl_rune r
structure DH (s pre : ByteArray) (pm : Addr) (a : Act) : Prop where
  size : a.tmps.size = 553
  s1 : a.eval (.tmp 1) = .string s
  s2 : a.eval (.tmp 2) = .pointer (some pm)
  s5 : a.eval (.tmp 5) = .string pre
  defers : a.defers = []
structure DT (s pre suf : ByteArray) (pm : Addr) (a : Act) : Prop where
  size : a.tmps.size = 553
  s1 : a.eval (.tmp 1) = .string s
  s2 : a.eval (.tmp 2) = .pointer (some pm)
  s5 : a.eval (.tmp 5) = .string pre
  s10 : a.eval (.tmp 10) = .string suf
  defers : a.defers = []
theorem cut_size (s : ByteArray) (n : Nat) : (cut s n).size = s.size - n := Lib.tail_size s n
theorem go_fit0 (s : ByteArray) : (Lib.decodeGo s).2 ≤ s.size := by
  by_cases h : 0 < s.size
  · exact go_fit s h
  · have : s.size = 0 := by omega
    simp [Lib.decodeGo, this]
set_option maxRecDepth 100000 in
set_option maxHeartbeats 2000000 in
theorem dlead {Q : Exit → Act → World → Prop} {a : Act} {w0 w : World} {m : Int} {s : ByteArray} (hT : Lib.Utf8Tabs 0 1 w0) (hA : DH s ⟨#[]⟩ ⟨w0.heap.size, 0, none⟩ a) (hW : WB w0 m w) (hn : s.size ≤ 140737488355328)
  (H : ∀ a' w', DH (dheads m s).2 (dheads m s).1 ⟨w0.heap.size, 0, none⟩ a' → WB w0 m w' → Q .normal a' w') :
  (piece [1, 1, 1, 1, 0] (Tryd.f30.body.getD .skip)).wp Tryd.prog Q a w := by
  conv => arg 2; whnf
  have hl := go_fit0 s
  refine wp_seq (d_dec1 (y := 42) (z := 6) enters41 hA.s1 (dec_call hT hW s) (by rw [hA.size]; decide) fun w1 hW1 a1 z1 d1 k1 e6 e7 => ?_)
  show Code.wp _ _ _ _ _
  have hA1 : DH s ⟨#[]⟩ ⟨w0.heap.size, 0, none⟩ a1 := ⟨z1.trans hA.size, (k1 1 (by decide) (by decide) (by decide)).trans hA.s1, (k1 2 (by decide) (by decide) (by decide)).trans hA.s2, (k1 5 (by decide) (by decide) (by decide)).trans hA.s5, d1.trans hA.defers⟩
  clear hA hW k1 z1 d1
  have D : ∀ v, dheads m s = v → v = dheads m s := fun _ h => h.symm
  unfold dheads at H
  generalize (Lib.decodeGo s).1 = r at H e6
  generalize (Lib.decodeGo s).2 = l at H e7 hl
  clear D
  refine wp_seq (d_has1 (x := 47) (z := 6) (f := 131072) (c := 9248) hA1.s2 hW1.cell e6 (by rw [hA1.size]; decide) fun a2 k2 z2 d2 ec => ?_)
  show Code.wp _ _ _ _ _
  have hA2 : DH s ⟨#[]⟩ ⟨w0.heap.size, 0, none⟩ a2 := ⟨z2.trans hA1.size, (k2 1 (by decide)).trans hA1.s1, (k2 2 (by decide)).trans hA1.s2, (k2 5 (by decide)).trans hA1.s5, d2.trans hA1.defers⟩
  have e6_2 := (k2 _ (by decide)).trans e6
  have e7_2 := (k2 _ (by decide)).trans e7
  refine wp_cond ec ?_
  cases ct0 : (hb m 131072 && ((r : Int) == 9248)) with
  | true =>
    rw [if_pos rfl]
    refine d_cut (S := ⟨#[32]⟩) (x := 53) (zl := 7) (by kernel_rfl) hA2.s1 e7_2 hl (by rw [hA2.size]; decide) fun n b z d k g1 g5 => ?_
    refine H _ _ ?_ (hW1.drewN n)
    simp only [dleft, ct0, if_true, if_false, Bool.false_eq_true, if_pos, reduceCtorEq]
    exact ⟨z.trans hA2.size, g1, (k 2 (by decide) (by decide) (by decide)).trans hA2.s2, g5, d.trans hA2.defers⟩
  | false =>
    rw [if_neg (by decide)]
    refine wp_seq (d_has1 (x := 56) (z := 6) (f := 262144) (c := 65294) hA2.s2 hW1.cell e6_2 (by rw [hA2.size]; decide) fun a3 k3 z3 d3 ec => ?_)
    show Code.wp _ _ _ _ _
    have hA3 : DH s ⟨#[]⟩ ⟨w0.heap.size, 0, none⟩ a3 := ⟨z3.trans hA2.size, (k3 1 (by decide)).trans hA2.s1, (k3 2 (by decide)).trans hA2.s2, (k3 5 (by decide)).trans hA2.s5, d3.trans hA2.defers⟩
    have e6_3 := (k3 _ (by decide)).trans e6_2
    have e7_3 := (k3 _ (by decide)).trans e7_2
    refine wp_cond ec ?_
    cases ct1 : (hb m 262144 && ((r : Int) == 65294)) with
    | true =>
      rw [if_pos rfl]
      refine d_cut (S := ⟨#[46]⟩) (x := 62) (zl := 7) (by kernel_rfl) hA3.s1 e7_3 hl (by rw [hA3.size]; decide) fun n b z d k g1 g5 => ?_
      refine H _ _ ?_ (hW1.drewN n)
      simp only [dleft, ct0, ct1, if_true, if_false, Bool.false_eq_true, if_pos, reduceCtorEq]
      exact ⟨z.trans hA3.size, g1, (k 2 (by decide) (by decide) (by decide)).trans hA3.s2, g5, d.trans hA3.defers⟩
    | false =>
      rw [if_neg (by decide)]
      refine wp_seq (d_has1 (x := 65) (z := 6) (f := 524288) (c := 65374) hA3.s2 hW1.cell e6_3 (by rw [hA3.size]; decide) fun a4 k4 z4 d4 ec => ?_)
      show Code.wp _ _ _ _ _
      have hA4 : DH s ⟨#[]⟩ ⟨w0.heap.size, 0, none⟩ a4 := ⟨z4.trans hA3.size, (k4 1 (by decide)).trans hA3.s1, (k4 2 (by decide)).trans hA3.s2, (k4 5 (by decide)).trans hA3.s5, d4.trans hA3.defers⟩
      have e6_4 := (k4 _ (by decide)).trans e6_3
      have e7_4 := (k4 _ (by decide)).trans e7_3
      refine wp_cond ec ?_
      cases ct2 : (hb m 524288 && ((r : Int) == 65374)) with
      | true =>
        rw [if_pos rfl]
        refine d_cut (S := ⟨#[126]⟩) (x := 71) (zl := 7) (by kernel_rfl) hA4.s1 e7_4 hl (by rw [hA4.size]; decide) fun n b z d k g1 g5 => ?_
        refine H _ _ ?_ (hW1.drewN n)
        simp only [dleft, ct0, ct1, ct2, if_true, if_false, Bool.false_eq_true, if_pos, reduceCtorEq]
        exact ⟨z.trans hA4.size, g1, (k 2 (by decide) (by decide) (by decide)).trans hA4.s2, g5, d.trans hA4.defers⟩
      | false =>
        rw [if_neg (by decide)]
        refine wp_seq (d_has4 (x := 74) (z := 6) (f := 1048576) hA4.s2 hW1.cell e6_4 (by rw [hA4.size]; decide) fun a5 k5 z5 d5 ec => ?_)
        show Code.wp _ _ _ _ _
        have hA5 : DH s ⟨#[]⟩ ⟨w0.heap.size, 0, none⟩ a5 := ⟨z5.trans hA4.size, (k5 1 (by decide)).trans hA4.s1, (k5 2 (by decide)).trans hA4.s2, (k5 5 (by decide)).trans hA4.s5, d5.trans hA4.defers⟩
        have e6_5 := (k5 _ (by decide)).trans e6_4
        have e7_5 := (k5 _ (by decide)).trans e7_4
        rw [isS_eq] at ec
        refine wp_cond ec ?_
        cases ct3 : (hb m 1048576 && isS r) with
        | true =>
          rw [if_pos rfl]
          have hS : isS r = true := by revert ct3; cases isS r <;> simp
          obtain ⟨v1, v2, v3⟩ := isS_conv hS
          refine d_cutr (S := one (r - 9216)) (x := 92) (z := 6) (zl := 7) (by kernel_rfl) hA5.s1 e6_5 e7_5 hl (by rw [hA5.size]; decide) v1 v2 fun n b z d k g1 g5 => ?_
          refine H _ _ ?_ (hW1.drewN n)
          simp only [dleft, ct0, ct1, ct2, ct3, if_true, if_false, Bool.false_eq_true, if_pos, reduceCtorEq]
          exact ⟨z.trans hA5.size, g1, (k 2 (by decide) (by decide) (by decide)).trans hA5.s2, g5, d.trans hA5.defers⟩
        | false =>
          rw [if_neg (by decide)]
          refine wp_seq (r_isr (x := 98) (z := 6) e6_5 (by rw [hA5.size]; decide) ?_)
          show Code.wp _ _ _ _ _
          have hA6 : DH s ⟨#[]⟩ ⟨w0.heap.size, 0, none⟩ ((a5.put (some 98) (.int .i32 (r : Int))).put (some (98 + 1)) (.bool ((r : Int) == 8219))) := ⟨by simp only [size_put]; exact hA5.size, by rw [eval_other _ _ _ _ (by decide), eval_other _ _ _ _ (by decide)]; exact hA5.s1, by rw [eval_other _ _ _ _ (by decide), eval_other _ _ _ _ (by decide)]; exact hA5.s2, by rw [eval_other _ _ _ _ (by decide), eval_other _ _ _ _ (by decide)]; exact hA5.s5, by simp only [defers_put]; exact hA5.defers⟩
          have e7_6 : ((a5.put (some 98) (.int .i32 (r : Int))).put (some (98 + 1)) (.bool ((r : Int) == 8219))).eval (.tmp 7) = .int .i64 (l : Int) := by rw [eval_other _ _ _ _ (by decide), eval_other _ _ _ _ (by decide)]; exact e7_5
          have ec := eval_same (a5.put (some 98) (.int .i32 (r : Int))) (98 + 1) (.bool ((r : Int) == 8219)) (by rw [size_put, hA5.size]; decide)
          generalize (a5.put (some 98) (.int .i32 (r : Int))).put (some (98 + 1)) (.bool ((r : Int) == 8219)) = a6 at hA6 e7_6 ec
          refine wp_cond ec ?_
          cases cq : ((r : Int) == 8219) with
          | false =>
            rw [if_neg (by decide)]
            refine wp_skip (H _ _ ?_ hW1)
            simp only [dleft, ct0, ct1, ct2, ct3, cq, if_true, if_false, Bool.false_eq_true, reduceCtorEq]
            exact hA6
          | true =>
            rw [if_pos rfl]
            have hl0 := go_fit0 (cut s l)
            rw [cut_size] at hl0
            refine wp_seq (d_dec2 (y := 100) (zl := 7) (z := 8) enters41 hA6.s1 e7_6 hl (dec_call hT hW1 (cut s l)) (by rw [hA6.size]; decide) fun w2 hW2 a7 z7 d7 k7 e8 e9 => ?_)
            show Code.wp _ _ _ _ _
            have hA7 : DH s ⟨#[]⟩ ⟨w0.heap.size, 0, none⟩ a7 := ⟨z7.trans hA6.size, (k7 1 (by decide) (by decide) (by decide)).trans hA6.s1, (k7 2 (by decide) (by decide) (by decide)).trans hA6.s2, (k7 5 (by decide) (by decide) (by decide)).trans hA6.s5, d7.trans hA6.defers⟩
            have f7 := (k7 7 (by decide) (by decide) (by decide)).trans e7_6
            generalize (Lib.decodeGo (cut s l)).1 = r2 at H e8
            generalize (Lib.decodeGo (cut s l)).2 = l2 at H e9 hl0
            have hl2 : l + l2 ≤ s.size := by omega
            refine wp_seq (d_has1 (x := 107) (z := 8) (f := 131072) (c := 9248) hA7.s2 hW2.cell e8 (by rw [hA7.size]; decide) fun a8 k8 z8 d8 ec => ?_)
            show Code.wp _ _ _ _ _
            have hA8 : DH s ⟨#[]⟩ ⟨w0.heap.size, 0, none⟩ a8 := ⟨z8.trans hA7.size, (k8 1 (by decide)).trans hA7.s1, (k8 2 (by decide)).trans hA7.s2, (k8 5 (by decide)).trans hA7.s5, d8.trans hA7.defers⟩
            have e8_8 := (k8 _ (by decide)).trans e8
            have f7_8 := (k8 _ (by decide)).trans f7
            have e9_8 := (k8 _ (by decide)).trans e9
            refine wp_cond ec ?_
            cases cq0 : (hb m 131072 && ((r2 : Int) == 9248)) with
            | true =>
              rw [if_pos rfl]
              refine d_cut2 (S := ⟨#[226, 144, 160]⟩) (x := 113) (zl := 7) (zm := 9) (by kernel_rfl) hA8.s1 f7_8 e9_8 hl2 hn (by rw [hA8.size]; decide) fun n b z d k g1 g5 => ?_
              refine H _ _ ?_ (hW2.drewN n)
              simp only [dleft, dleftq, ct0, ct1, ct2, ct3, cq, cq0, if_true, if_false, Bool.false_eq_true, if_pos, reduceCtorEq]
              exact ⟨z.trans hA8.size, g1, (k 2 (by decide) (by decide) (by decide)).trans hA8.s2, g5, d.trans hA8.defers⟩
            | false =>
              rw [if_neg (by decide)]
              refine wp_seq (d_has1 (x := 118) (z := 8) (f := 262144) (c := 65294) hA8.s2 hW2.cell e8_8 (by rw [hA8.size]; decide) fun a9 k9 z9 d9 ec => ?_)
              show Code.wp _ _ _ _ _
              have hA9 : DH s ⟨#[]⟩ ⟨w0.heap.size, 0, none⟩ a9 := ⟨z9.trans hA8.size, (k9 1 (by decide)).trans hA8.s1, (k9 2 (by decide)).trans hA8.s2, (k9 5 (by decide)).trans hA8.s5, d9.trans hA8.defers⟩
              have e8_9 := (k9 _ (by decide)).trans e8_8
              have f7_9 := (k9 _ (by decide)).trans f7_8
              have e9_9 := (k9 _ (by decide)).trans e9_8
              refine wp_cond ec ?_
              cases cq1 : (hb m 262144 && ((r2 : Int) == 65294)) with
              | true =>
                rw [if_pos rfl]
                refine d_cut2 (S := ⟨#[239, 188, 142]⟩) (x := 124) (zl := 7) (zm := 9) (by kernel_rfl) hA9.s1 f7_9 e9_9 hl2 hn (by rw [hA9.size]; decide) fun n b z d k g1 g5 => ?_
                refine H _ _ ?_ (hW2.drewN n)
                simp only [dleft, dleftq, ct0, ct1, ct2, ct3, cq, cq0, cq1, if_true, if_false, Bool.false_eq_true, if_pos, reduceCtorEq]
                exact ⟨z.trans hA9.size, g1, (k 2 (by decide) (by decide) (by decide)).trans hA9.s2, g5, d.trans hA9.defers⟩
              | false =>
                rw [if_neg (by decide)]
                refine wp_seq (d_has1 (x := 129) (z := 8) (f := 524288) (c := 65374) hA9.s2 hW2.cell e8_9 (by rw [hA9.size]; decide) fun a10 k10 z10 d10 ec => ?_)
                show Code.wp _ _ _ _ _
                have hA10 : DH s ⟨#[]⟩ ⟨w0.heap.size, 0, none⟩ a10 := ⟨z10.trans hA9.size, (k10 1 (by decide)).trans hA9.s1, (k10 2 (by decide)).trans hA9.s2, (k10 5 (by decide)).trans hA9.s5, d10.trans hA9.defers⟩
                have e8_10 := (k10 _ (by decide)).trans e8_9
                have f7_10 := (k10 _ (by decide)).trans f7_9
                have e9_10 := (k10 _ (by decide)).trans e9_9
                refine wp_cond ec ?_
                cases cq2 : (hb m 524288 && ((r2 : Int) == 65374)) with
                | true =>
                  rw [if_pos rfl]
                  refine d_cut2 (S := ⟨#[239, 189, 158]⟩) (x := 135) (zl := 7) (zm := 9) (by kernel_rfl) hA10.s1 f7_10 e9_10 hl2 hn (by rw [hA10.size]; decide) fun n b z d k g1 g5 => ?_
                  refine H _ _ ?_ (hW2.drewN n)
                  simp only [dleft, dleftq, ct0, ct1, ct2, ct3, cq, cq0, cq1, cq2, if_true, if_false, Bool.false_eq_true, if_pos, reduceCtorEq]
                  exact ⟨z.trans hA10.size, g1, (k 2 (by decide) (by decide) (by decide)).trans hA10.s2, g5, d.trans hA10.defers⟩
                | false =>
                  rw [if_neg (by decide)]
                  refine wp_seq (d_has4 (x := 140) (z := 8) (f := 1048576) hA10.s2 hW2.cell e8_10 (by rw [hA10.size]; decide) fun a11 k11 z11 d11 ec => ?_)
                  show Code.wp _ _ _ _ _
                  have hA11 : DH s ⟨#[]⟩ ⟨w0.heap.size, 0, none⟩ a11 := ⟨z11.trans hA10.size, (k11 1 (by decide)).trans hA10.s1, (k11 2 (by decide)).trans hA10.s2, (k11 5 (by decide)).trans hA10.s5, d11.trans hA10.defers⟩
                  have e8_11 := (k11 _ (by decide)).trans e8_10
                  have f7_11 := (k11 _ (by decide)).trans f7_10
                  have e9_11 := (k11 _ (by decide)).trans e9_10
                  rw [isS_eq] at ec
                  refine wp_cond ec ?_
                  cases cq3 : (hb m 1048576 && isS r2) with
                  | true =>
                    rw [if_pos rfl]
                    have hS : isS r2 = true := by revert cq3; cases isS r2 <;> simp
                    obtain ⟨v1, v2, v3⟩ := isS_conv hS
                    refine d_cut2r (S := sgn (r2 - 9216)) (x := 158) (z := 8) (zl := 7) (zm := 9) (by kernel_rfl) hA11.s1 e8_11 f7_11 e9_11 hl2 hn (by rw [hA11.size]; decide) v3 fun n b z d k g1 g5 => ?_
                    refine H _ _ ?_ (hW2.drewN n)
                    simp only [dleft, dleftq, ct0, ct1, ct2, ct3, cq, cq0, cq1, cq2, cq3, if_true, if_false, Bool.false_eq_true, if_pos, reduceCtorEq]
                    exact ⟨z.trans hA11.size, g1, (k 2 (by decide) (by decide) (by decide)).trans hA11.s2, g5, d.trans hA11.defers⟩
                  | false =>
                    rw [if_neg (by decide)]
                    refine wp_skip (H _ _ ?_ hW2)
                    simp only [dleft, dleftq, ct0, ct1, ct2, ct3, cq, cq0, cq1, cq2, cq3, if_true, if_false, Bool.false_eq_true, reduceCtorEq]
                    exact hA11
set_option maxRecDepth 100000 in
set_option maxHeartbeats 2000000 in
theorem dtrail {Q : Exit → Act → World → Prop} {a : Act} {w0 w : World} {m : Int} {s pre : ByteArray} (hT : Lib.Utf8Tabs 0 1 w0) (hA : DT s pre ⟨#[]⟩ ⟨w0.heap.size, 0, none⟩ a) (hW : WB w0 m w) (hn : s.size ≤ 140737488355328)
  (H : ∀ a' w', DT (dtails m s).2 pre (dtails m s).1 ⟨w0.heap.size, 0, none⟩ a' → WB w0 m w' → Q .normal a' w') :
  (piece [1, 1, 1, 1, 1, 1, 0] (Tryd.f30.body.getD .skip)).wp Tryd.prog Q a w := by
  conv => arg 2; whnf
  have hl : (lst s).2 ≤ s.size := last_fit s
  refine wp_seq (d_dec1 (y := 165) (z := 11) enters42 hA.s1 (decl_call hT hW s hn) (by rw [hA.size]; decide) fun w1 hW1 a1 z1 d1 k1 er el => ?_)
  show Code.wp _ _ _ _ _
  have hA1 : DT s pre ⟨#[]⟩ ⟨w0.heap.size, 0, none⟩ a1 := ⟨z1.trans hA.size, (k1 1 (by decide) (by decide) (by decide)).trans hA.s1, (k1 2 (by decide) (by decide) (by decide)).trans hA.s2, (k1 5 (by decide) (by decide) (by decide)).trans hA.s5, (k1 10 (by decide) (by decide) (by decide)).trans hA.s10, d1.trans hA.defers⟩
  clear hA hW k1 z1 d1
  unfold dtails at H
  change a1.eval (.tmp 11) = .int .i32 (((lst s).1 : Nat) : Int) at er
  change a1.eval (.tmp (11 + 1)) = .int .i64 (((lst s).2 : Nat) : Int) at el
  generalize (lst s).1 = r at H er
  generalize (lst s).2 = l at H el hl
  have hl2 := last_fit (s.extract 0 (s.size - l))
  refine wp_seq (d_has1 (x := 170) (z := 11) (f := 2097152) (c := 9248) hA1.s2 hW1.cell er (by rw [hA1.size]; decide) fun a2 k2 z2 d2 ec => ?_)
  show Code.wp _ _ _ _ _
  have hA2 : DT (s) pre ⟨#[]⟩ ⟨w0.heap.size, 0, none⟩ a2 := ⟨z2.trans hA1.size, (k2 1 (by decide)).trans hA1.s1, (k2 2 (by decide)).trans hA1.s2, (k2 5 (by decide)).trans hA1.s5, (k2 10 (by decide)).trans hA1.s10, d2.trans hA1.defers⟩
  have er_2 := (k2 _ (by decide)).trans er
  have el_2 := (k2 _ (by decide)).trans el
  refine wp_cond ec ?_
  cases c0 : (hb m 2097152 && ((r : Int) == 9248)) with
  | true =>
    rw [if_pos rfl]
    refine wp_seq (d_end (x := 176) (zl := 12) hA2.s1 el_2 hl hn (by rw [hA2.size]; decide) fun b1 z d k g1 => ?_)
    show Code.wp _ _ _ _ _
    have hB1 : DT (s.extract 0 (s.size - l)) pre ⟨#[]⟩ ⟨w0.heap.size, 0, none⟩ b1 := ⟨z.trans hA2.size, g1, (k 2 (by decide) (by decide)).trans hA2.s2, (k 5 (by decide) (by decide)).trans hA2.s5, (k 10 (by decide) (by decide)).trans hA2.s10, d.trans hA2.defers⟩
    have er1 := (k 11 (by decide) (by decide)).trans er_2
    clear k z d g1
    have hsz : (s.extract 0 (s.size - l)).size ≤ s.size := by simp [ByteArray.size_extract]
    refine wp_seq (d_dec1 (y := 182) (z := 13) enters42 hB1.s1 (decl_call hT hW1 _ (Nat.le_trans hsz hn)) (by rw [hB1.size]; decide) fun w2 hW2 b2 z d k eq el2 => ?_)
    show Code.wp _ _ _ _ _
    have hB2 : DT (s.extract 0 (s.size - l)) pre ⟨#[]⟩ ⟨w0.heap.size, 0, none⟩ b2 := ⟨z.trans hB1.size, (k 1 (by decide) (by decide) (by decide)).trans hB1.s1, (k 2 (by decide) (by decide) (by decide)).trans hB1.s2, (k 5 (by decide) (by decide) (by decide)).trans hB1.s5, (k 10 (by decide) (by decide) (by decide)).trans hB1.s10, d.trans hB1.defers⟩
    have er2 := (k 11 (by decide) (by decide) (by decide)).trans er1
    clear k z d
    change b2.eval (.tmp 13) = .int .i32 (((lst (s.extract 0 (s.size - l))).1 : Nat) : Int) at eq
    change b2.eval (.tmp (13 + 1)) = .int .i64 (((lst (s.extract 0 (s.size - l))).2 : Nat) : Int) at el2
    change (lst (s.extract 0 (s.size - l))).2 ≤ _ at hl2
    generalize s.extract 0 (s.size - l) = s1 at *
    generalize (lst s1).1 = q at *
    generalize (lst s1).2 = lq at *
    refine wp_seq (r_isr (x := 187) (z := 13) eq (by rw [hB2.size]; decide) ?_)
    show Code.wp _ _ _ _ _
    have hB3 : DT s1 pre ⟨#[]⟩ ⟨w0.heap.size, 0, none⟩ ((b2.put (some 187) (.int .i32 (q : Int))).put (some (187 + 1)) (.bool ((q : Int) == 8219))) := ⟨by simp only [size_put]; exact hB2.size, by rw [eval_other _ _ _ _ (by decide), eval_other _ _ _ _ (by decide)]; exact hB2.s1, by rw [eval_other _ _ _ _ (by decide), eval_other _ _ _ _ (by decide)]; exact hB2.s2, by rw [eval_other _ _ _ _ (by decide), eval_other _ _ _ _ (by decide)]; exact hB2.s5, by rw [eval_other _ _ _ _ (by decide), eval_other _ _ _ _ (by decide)]; exact hB2.s10, by simp only [defers_put]; exact hB2.defers⟩
    have er3 : ((b2.put (some 187) (.int .i32 (q : Int))).put (some (187 + 1)) (.bool ((q : Int) == 8219))).eval (.tmp 11) = .int .i32 (r : Int) := by rw [eval_other _ _ _ _ (by decide), eval_other _ _ _ _ (by decide)]; exact er2
    have el3 : ((b2.put (some 187) (.int .i32 (q : Int))).put (some (187 + 1)) (.bool ((q : Int) == 8219))).eval (.tmp (13 + 1)) = .int .i64 (lq : Int) := by rw [eval_other _ _ _ _ (by decide), eval_other _ _ _ _ (by decide)]; exact el2
    have ec3 := eval_same (b2.put (some 187) (.int .i32 (q : Int))) (187 + 1) (.bool ((q : Int) == 8219)) (by rw [size_put, hB2.size]; decide)
    generalize ((b2.put (some 187) (.int .i32 (q : Int))).put (some (187 + 1)) (.bool ((q : Int) == 8219))) = b3 at hB3 er3 el3 ec3
    refine wp_cond ec3 ?_
    cases cq : ((q : Int) == 8219) with
    | true =>
      rw [if_pos rfl]
      refine d_endc (S := ⟨#[226, 144, 160]⟩) (x := 189) (zl := 14) (by kernel_rfl) hB3.s1 el3 hl2 (by omega) (by rw [hB3.size]; decide) fun n b z d k g1 g10 => ?_
      refine H _ _ ?_ (hW2.drewN n)
      simp only [dright, c0, cq, if_true, if_false, Bool.false_eq_true, reduceCtorEq]
      exact ⟨z.trans hB3.size, g1, (k 2 (by decide) (by decide) (by decide)).trans hB3.s2, (k 5 (by decide) (by decide) (by decide)).trans hB3.s5, g10, d.trans hB3.defers⟩
    | false =>
      rw [if_neg (by decide)]
      refine wp_region_lit (assign ?_)
      refine wpList_nil (H _ _ ?_ hW2)
      simp only [dright, c0, cq, if_true, if_false, Bool.false_eq_true, reduceCtorEq]
      exact ⟨(size_put _ _ _).trans hB3.size, (eval_other _ _ _ _ (by decide)).trans hB3.s1, (eval_other _ _ _ _ (by decide)).trans hB3.s2, (eval_other _ _ _ _ (by decide)).trans hB3.s5, eval_same _ _ _ (by rw [hB3.size]; decide), (defers_put _ _ _).trans hB3.defers⟩
  | false =>
    rw [if_neg (by decide)]
    refine wp_seq (d_has1 (x := 195) (z := 11) (f := 4194304) (c := 65294) hA2.s2 hW1.cell er_2 (by rw [hA2.size]; decide) fun a3 k3 z3 d3 ec => ?_)
    show Code.wp _ _ _ _ _
    have hA3 : DT (s) pre ⟨#[]⟩ ⟨w0.heap.size, 0, none⟩ a3 := ⟨z3.trans hA2.size, (k3 1 (by decide)).trans hA2.s1, (k3 2 (by decide)).trans hA2.s2, (k3 5 (by decide)).trans hA2.s5, (k3 10 (by decide)).trans hA2.s10, d3.trans hA2.defers⟩
    have er_3 := (k3 _ (by decide)).trans er_2
    have el_3 := (k3 _ (by decide)).trans el_2
    refine wp_cond ec ?_
    cases c1 : (hb m 4194304 && ((r : Int) == 65294)) with
    | true =>
      rw [if_pos rfl]
      refine wp_seq (d_end (x := 201) (zl := 12) hA3.s1 el_3 hl hn (by rw [hA3.size]; decide) fun b1 z d k g1 => ?_)
      show Code.wp _ _ _ _ _
      have hB1 : DT (s.extract 0 (s.size - l)) pre ⟨#[]⟩ ⟨w0.heap.size, 0, none⟩ b1 := ⟨z.trans hA3.size, g1, (k 2 (by decide) (by decide)).trans hA3.s2, (k 5 (by decide) (by decide)).trans hA3.s5, (k 10 (by decide) (by decide)).trans hA3.s10, d.trans hA3.defers⟩
      have er1 := (k 11 (by decide) (by decide)).trans er_3
      clear k z d g1
      have hsz : (s.extract 0 (s.size - l)).size ≤ s.size := by simp [ByteArray.size_extract]
      refine wp_seq (d_dec1 (y := 207) (z := 15) enters42 hB1.s1 (decl_call hT hW1 _ (Nat.le_trans hsz hn)) (by rw [hB1.size]; decide) fun w2 hW2 b2 z d k eq el2 => ?_)
      show Code.wp _ _ _ _ _
      have hB2 : DT (s.extract 0 (s.size - l)) pre ⟨#[]⟩ ⟨w0.heap.size, 0, none⟩ b2 := ⟨z.trans hB1.size, (k 1 (by decide) (by decide) (by decide)).trans hB1.s1, (k 2 (by decide) (by decide) (by decide)).trans hB1.s2, (k 5 (by decide) (by decide) (by decide)).trans hB1.s5, (k 10 (by decide) (by decide) (by decide)).trans hB1.s10, d.trans hB1.defers⟩
      have er2 := (k 11 (by decide) (by decide) (by decide)).trans er1
      clear k z d
      change b2.eval (.tmp 15) = .int .i32 (((lst (s.extract 0 (s.size - l))).1 : Nat) : Int) at eq
      change b2.eval (.tmp (15 + 1)) = .int .i64 (((lst (s.extract 0 (s.size - l))).2 : Nat) : Int) at el2
      change (lst (s.extract 0 (s.size - l))).2 ≤ _ at hl2
      generalize s.extract 0 (s.size - l) = s1 at *
      generalize (lst s1).1 = q at *
      generalize (lst s1).2 = lq at *
      refine wp_seq (r_isr (x := 212) (z := 15) eq (by rw [hB2.size]; decide) ?_)
      show Code.wp _ _ _ _ _
      have hB3 : DT s1 pre ⟨#[]⟩ ⟨w0.heap.size, 0, none⟩ ((b2.put (some 212) (.int .i32 (q : Int))).put (some (212 + 1)) (.bool ((q : Int) == 8219))) := ⟨by simp only [size_put]; exact hB2.size, by rw [eval_other _ _ _ _ (by decide), eval_other _ _ _ _ (by decide)]; exact hB2.s1, by rw [eval_other _ _ _ _ (by decide), eval_other _ _ _ _ (by decide)]; exact hB2.s2, by rw [eval_other _ _ _ _ (by decide), eval_other _ _ _ _ (by decide)]; exact hB2.s5, by rw [eval_other _ _ _ _ (by decide), eval_other _ _ _ _ (by decide)]; exact hB2.s10, by simp only [defers_put]; exact hB2.defers⟩
      have er3 : ((b2.put (some 212) (.int .i32 (q : Int))).put (some (212 + 1)) (.bool ((q : Int) == 8219))).eval (.tmp 11) = .int .i32 (r : Int) := by rw [eval_other _ _ _ _ (by decide), eval_other _ _ _ _ (by decide)]; exact er2
      have el3 : ((b2.put (some 212) (.int .i32 (q : Int))).put (some (212 + 1)) (.bool ((q : Int) == 8219))).eval (.tmp (15 + 1)) = .int .i64 (lq : Int) := by rw [eval_other _ _ _ _ (by decide), eval_other _ _ _ _ (by decide)]; exact el2
      have ec3 := eval_same (b2.put (some 212) (.int .i32 (q : Int))) (212 + 1) (.bool ((q : Int) == 8219)) (by rw [size_put, hB2.size]; decide)
      generalize ((b2.put (some 212) (.int .i32 (q : Int))).put (some (212 + 1)) (.bool ((q : Int) == 8219))) = b3 at hB3 er3 el3 ec3
      refine wp_cond ec3 ?_
      cases cq : ((q : Int) == 8219) with
      | true =>
        rw [if_pos rfl]
        refine d_endc (S := ⟨#[239, 188, 142]⟩) (x := 214) (zl := 16) (by kernel_rfl) hB3.s1 el3 hl2 (by omega) (by rw [hB3.size]; decide) fun n b z d k g1 g10 => ?_
        refine H _ _ ?_ (hW2.drewN n)
        simp only [dright, c0, c1, cq, if_true, if_false, Bool.false_eq_true, reduceCtorEq]
        exact ⟨z.trans hB3.size, g1, (k 2 (by decide) (by decide) (by decide)).trans hB3.s2, (k 5 (by decide) (by decide) (by decide)).trans hB3.s5, g10, d.trans hB3.defers⟩
      | false =>
        rw [if_neg (by decide)]
        refine wp_region_lit (assign ?_)
        refine wpList_nil (H _ _ ?_ hW2)
        simp only [dright, c0, c1, cq, if_true, if_false, Bool.false_eq_true, reduceCtorEq]
        exact ⟨(size_put _ _ _).trans hB3.size, (eval_other _ _ _ _ (by decide)).trans hB3.s1, (eval_other _ _ _ _ (by decide)).trans hB3.s2, (eval_other _ _ _ _ (by decide)).trans hB3.s5, eval_same _ _ _ (by rw [hB3.size]; decide), (defers_put _ _ _).trans hB3.defers⟩
    | false =>
      rw [if_neg (by decide)]
      refine wp_seq (d_has4 (x := 220) (z := 11) (f := 8388608) hA3.s2 hW1.cell er_3 (by rw [hA3.size]; decide) fun a4 k4 z4 d4 ec => ?_)
      show Code.wp _ _ _ _ _
      have hA4 : DT (s) pre ⟨#[]⟩ ⟨w0.heap.size, 0, none⟩ a4 := ⟨z4.trans hA3.size, (k4 1 (by decide)).trans hA3.s1, (k4 2 (by decide)).trans hA3.s2, (k4 5 (by decide)).trans hA3.s5, (k4 10 (by decide)).trans hA3.s10, d4.trans hA3.defers⟩
      have er_4 := (k4 _ (by decide)).trans er_3
      have el_4 := (k4 _ (by decide)).trans el_3
      rw [isS_eq] at ec
      refine wp_cond ec ?_
      cases c2 : (hb m 8388608 && isS r) with
      | true =>
        rw [if_pos rfl]
        have hS : isS r = true := by revert c2; cases isS r <;> simp
        obtain ⟨v1, v2, v3⟩ := isS_conv hS
        refine wp_seq (d_end (x := 238) (zl := 12) hA4.s1 el_4 hl hn (by rw [hA4.size]; decide) fun b1 z d k g1 => ?_)
        show Code.wp _ _ _ _ _
        have hB1 : DT (s.extract 0 (s.size - l)) pre ⟨#[]⟩ ⟨w0.heap.size, 0, none⟩ b1 := ⟨z.trans hA4.size, g1, (k 2 (by decide) (by decide)).trans hA4.s2, (k 5 (by decide) (by decide)).trans hA4.s5, (k 10 (by decide) (by decide)).trans hA4.s10, d.trans hA4.defers⟩
        have er1 := (k 11 (by decide) (by decide)).trans er_4
        clear k z d g1
        have hsz : (s.extract 0 (s.size - l)).size ≤ s.size := by simp [ByteArray.size_extract]
        refine wp_seq (d_dec1 (y := 244) (z := 17) enters42 hB1.s1 (decl_call hT hW1 _ (Nat.le_trans hsz hn)) (by rw [hB1.size]; decide) fun w2 hW2 b2 z d k eq el2 => ?_)
        show Code.wp _ _ _ _ _
        have hB2 : DT (s.extract 0 (s.size - l)) pre ⟨#[]⟩ ⟨w0.heap.size, 0, none⟩ b2 := ⟨z.trans hB1.size, (k 1 (by decide) (by decide) (by decide)).trans hB1.s1, (k 2 (by decide) (by decide) (by decide)).trans hB1.s2, (k 5 (by decide) (by decide) (by decide)).trans hB1.s5, (k 10 (by decide) (by decide) (by decide)).trans hB1.s10, d.trans hB1.defers⟩
        have er2 := (k 11 (by decide) (by decide) (by decide)).trans er1
        clear k z d
        change b2.eval (.tmp 17) = .int .i32 (((lst (s.extract 0 (s.size - l))).1 : Nat) : Int) at eq
        change b2.eval (.tmp (17 + 1)) = .int .i64 (((lst (s.extract 0 (s.size - l))).2 : Nat) : Int) at el2
        change (lst (s.extract 0 (s.size - l))).2 ≤ _ at hl2
        generalize s.extract 0 (s.size - l) = s1 at *
        generalize (lst s1).1 = q at *
        generalize (lst s1).2 = lq at *
        refine wp_seq (r_isr (x := 249) (z := 17) eq (by rw [hB2.size]; decide) ?_)
        show Code.wp _ _ _ _ _
        have hB3 : DT s1 pre ⟨#[]⟩ ⟨w0.heap.size, 0, none⟩ ((b2.put (some 249) (.int .i32 (q : Int))).put (some (249 + 1)) (.bool ((q : Int) == 8219))) := ⟨by simp only [size_put]; exact hB2.size, by rw [eval_other _ _ _ _ (by decide), eval_other _ _ _ _ (by decide)]; exact hB2.s1, by rw [eval_other _ _ _ _ (by decide), eval_other _ _ _ _ (by decide)]; exact hB2.s2, by rw [eval_other _ _ _ _ (by decide), eval_other _ _ _ _ (by decide)]; exact hB2.s5, by rw [eval_other _ _ _ _ (by decide), eval_other _ _ _ _ (by decide)]; exact hB2.s10, by simp only [defers_put]; exact hB2.defers⟩
        have er3 : ((b2.put (some 249) (.int .i32 (q : Int))).put (some (249 + 1)) (.bool ((q : Int) == 8219))).eval (.tmp 11) = .int .i32 (r : Int) := by rw [eval_other _ _ _ _ (by decide), eval_other _ _ _ _ (by decide)]; exact er2
        have el3 : ((b2.put (some 249) (.int .i32 (q : Int))).put (some (249 + 1)) (.bool ((q : Int) == 8219))).eval (.tmp (17 + 1)) = .int .i64 (lq : Int) := by rw [eval_other _ _ _ _ (by decide), eval_other _ _ _ _ (by decide)]; exact el2
        have ec3 := eval_same (b2.put (some 249) (.int .i32 (q : Int))) (249 + 1) (.bool ((q : Int) == 8219)) (by rw [size_put, hB2.size]; decide)
        generalize ((b2.put (some 249) (.int .i32 (q : Int))).put (some (249 + 1)) (.bool ((q : Int) == 8219))) = b3 at hB3 er3 el3 ec3
        refine wp_cond ec3 ?_
        cases cq : ((q : Int) == 8219) with
        | true =>
          rw [if_pos rfl]
          refine d_endr (S := sgn (r - 9216)) (x := 251) (z := 11) (zl := 18) (by kernel_rfl) hB3.s1 er3 el3 hl2 (by omega) (by rw [hB3.size]; decide) v3 fun n b z d k g1 g10 => ?_
          refine H _ _ ?_ (hW2.drewN n)
          simp only [dright, c0, c1, c2, cq, if_true, if_false, Bool.false_eq_true, reduceCtorEq]
          exact ⟨z.trans hB3.size, g1, (k 2 (by decide) (by decide) (by decide)).trans hB3.s2, (k 5 (by decide) (by decide) (by decide)).trans hB3.s5, g10, d.trans hB3.defers⟩
        | false =>
          rw [if_neg (by decide)]
          refine d_tailr (S := one (r - 9216)) (x := 259) (z := 11) er3 (by rw [hB3.size]; decide) v1 v2 fun b z d k g10 => ?_
          refine H _ _ ?_ hW2
          simp only [dright, c0, c1, c2, cq, if_true, if_false, Bool.false_eq_true, reduceCtorEq]
          exact ⟨z.trans hB3.size, (k 1 (by decide) (by decide)).trans hB3.s1, (k 2 (by decide) (by decide)).trans hB3.s2, (k 5 (by decide) (by decide)).trans hB3.s5, g10, d.trans hB3.defers⟩
      | false =>
        rw [if_neg (by decide)]
        refine wp_skip (H _ _ ?_ hW1)
        simp only [dright, c0, c1, c2, if_true, if_false, Bool.false_eq_true, reduceCtorEq]
        exact hA4
end Go.Proofs.YtlgoghonnnobfaaDoor.Dec
namespace Go.Proofs.YtlgoghonnnobfaaDoor.Dec
open Go Go.RowKit Go.Proofs.YtlgoghonnnobfaaDoor.Fr Go.Proofs.YtlgoghonnnobfaaDoor.Enc
set_option linter.unusedVariables false
set_option linter.unusedSimpArgs false
/-! ### the decoder ahead of its loop -/
theorem grow_any (B b n : Nat) (w : World) (hB : B ≤ b) (hBw : B ≤ w.heap.size) (hbk : w.heap[b]? = some (.cells #[.slice none 0 0, .int .i64 0, .int .i8 0] 56 (0, 0))) (hlim : n ≤ 140737488355328) :
    Calls Tryd.prog 45 #[.pointer (some ⟨b, 0, none⟩), .int .i64 (n : Int)] w fun e w' => (∃ v, e = .returned v) ∧ Lib.IsBuffer 56 5 B b [] w' ∧ Below B w w' ∧ Lib.OthersKept 5 (some b) w w' := by
  by_cases h : 1 ≤ n
  · exact grow45 B b n w hB hBw hbk h hlim
  · obtain rfl : n = 0 := by omega
    exact grow45_0 B b w hB hBw hbk
set_option maxRecDepth 100000 in
set_option maxHeartbeats 2000000 in
theorem dpre_walk {R : Ending → World → Prop} {s pre suf : ByteArray} {i : Nat} {a : Act} {w0 w : World} {m : Int} (hT : Lib.Utf8Tabs 0 1 w0)
    (hz : a.tmps.size = 553) (h1 : a.eval (.tmp 1) = .string s) (h2 : a.eval (.tmp 2) = .pointer (some ⟨w0.heap.size, 0, none⟩)) (h5 : a.eval (.tmp 5) = .string pre) (h15 : a.eval (.tmp 10) = .string suf) (h23 : a.eval (.tmp 19) = .int .i64 (i : Int)) (hd : a.defers = [])
    (hbox : w.heap[w0.heap.size]? = some (.cells #[.int .u64 m] 39 (0, 0))) (hbel : Below w0.heap.size w0 w) (hs : s.size ≤ 500000) (hpre : pre.size ≤ 500000) (hsuf : suf.size ≤ 500000) (hi : i ≤ s.size) (hS : Syn w0)
    (H : ∀ w', Below w0.heap.size w0 w' → R (.returned (.string ⟨(pre.data.toList ++ (s.extract 0 i).data.toList ++ decAll m (s.extract i s.size) ++ suf.data.toList).toArray⟩)) w') :
    (piece [1, 1, 1, 1, 1, 1, 1, 1, 1, 1] (Tryd.f30.body.getD .skip)).wp Tryd.prog (bodyPost Tryd.prog Tryd.f30 R) a w := by
  have hbl : w0.heap.size < w.heap.size := (Array.getElem?_eq_some_iff.1 hbox).1
  conv => arg 2; whnf
  refine wp_seq ?_
  refine wp_region_lit ?_
  refine Fr.step rfl run_alloc56 ?_
  refine wpList_nil ?_
  show Code.wp _ _ _ _ _
  have hb1 : Below w.heap.size w (w.alloc (.cells #[.slice none 0 0, .int .i64 0, .int .i8 0] 56)) := (Below.refl _ w).alloc (Nat.le_refl _) _
  have hf := heap_alloc_new w (.cells #[.slice none 0 0, .int .i64 0, .int .i8 0] 56)
  have hbox1 := old_block hb1 hbox
  have hbel1 := hbel.trans (hb1.mono hbel.size)
  have e1 : (a.put (some 20) (.pointer (some ⟨w.heap.size, 0, none⟩))).eval (.tmp 1) = .string s := by simp [eval_other, h1]
  have e2 : (a.put (some 20) (.pointer (some ⟨w.heap.size, 0, none⟩))).eval (.tmp 2) = .pointer (some ⟨w0.heap.size, 0, none⟩) := by simp [eval_other, h2]
  have e5 : (a.put (some 20) (.pointer (some ⟨w.heap.size, 0, none⟩))).eval (.tmp 5) = .string pre := by simp [eval_other, h5]
  have e15 : (a.put (some 20) (.pointer (some ⟨w.heap.size, 0, none⟩))).eval (.tmp 10) = .string suf := by simp [eval_other, h15]
  have e23 : (a.put (some 20) (.pointer (some ⟨w.heap.size, 0, none⟩))).eval (.tmp 19) = .int .i64 (i : Int) := by simp [eval_other, h23]
  have e24 : (a.put (some 20) (.pointer (some ⟨w.heap.size, 0, none⟩))).eval (.tmp 20) = .pointer (some ⟨w.heap.size, 0, none⟩) := eval_same _ _ _ (by omega)
  have hd1 : (a.put (some 20) (.pointer (some ⟨w.heap.size, 0, none⟩))).defers = [] := by rw [defers_put]; exact hd
  have hz1 : (a.put (some 20) (.pointer (some ⟨w.heap.size, 0, none⟩))).tmps.size = 553 := by rw [size_put]; exact hz
  generalize (a.put (some 20) (.pointer (some ⟨w.heap.size, 0, none⟩))) = a1 at e1 e2 e5 e15 e23 e24 hd1 hz1
  generalize w.alloc (.cells #[.slice none 0 0, .int .i64 0, .int .i8 0] 56) = w1 at hf hbox1 hbel1
  generalize w.heap.size = b at *
  clear hb1 hbel hbox h1 h2 h5 h15 h23 hd hz a
  -- Grow
  refine wp_seq ?_
  refine wp_region_lit ?_
  refine Fr.move ?_
  rw [e1]
  refine Fr.step rfl (run_len (s := s) Tryd.underlying9 (eval_same _ _ _ (by omega))) ?_
  refine call enters45 ?_
  have e : ∀ c : Act, c.tmps.size = 553 → c.eval (.tmp 20) = .pointer (some ⟨b, 0, none⟩) → (#[Operand.tmp 20, .tmp 275]).map (c.put (some 275) (.int .i64 (s.size : Int))).eval = #[.pointer (some ⟨b, 0, none⟩), .int .i64 (s.size : Int)] := by
    intro c hc h24
    simp [eval_same _ _ _ (show 275 < c.tmps.size by omega), eval_other _ 275 20 _ (by decide), h24]
  rw [e _ (by simp [size_put, hz1]) (by simp [eval_other, e24])]
  refine (grow_any w0.heap.size b s.size w1 (by omega) hbel1.size hf (by omega)).mono ?_
  rintro e' w2 ⟨⟨v, rfl⟩, hb2, hbe2, hk2⟩
  refine ⟨_, rfl, wpList_nil ?_⟩
  show Code.wp _ _ _ _ _
  have hK : K w0 m b [] w2 := ⟨hb2, hk2 _ _ hbox1 (by simp; omega) (fun c fz e => by cases e), hbel1.trans hbe2⟩
  have S : ∀ c : Act, Same 250 290 a1 c → c.tmps.size = 553 ∧ c.eval (.tmp 1) = .string s ∧ c.eval (.tmp 2) = .pointer (some ⟨w0.heap.size, 0, none⟩) ∧ c.eval (.tmp 5) = .string pre ∧ c.eval (.tmp 10) = .string suf ∧ c.eval (.tmp 19) = .int .i64 (i : Int) ∧ c.eval (.tmp 20) = .pointer (some ⟨b, 0, none⟩) ∧ c.defers = [] := fun c hc =>
    ⟨hc.size.trans hz1, (hc.slot 1 (by decide)).trans e1, (hc.slot 2 (by decide)).trans e2, (hc.slot 5 (by decide)).trans e5, (hc.slot 10 (by decide)).trans e15, (hc.slot 19 (by decide)).trans e23, (hc.slot 20 (by decide)).trans e24, hc.defers.trans hd1⟩
  have hP : ∀ (c : Act) (d : Nat) (v : Value), Same 250 290 a1 c → 250 ≤ d → d ≤ 290 → Same 250 290 a1 (c.put (some d) v) := fun c d v h h1 h2 => h.put d v h1 h2
  have S2 := hP _ 276 v (hP _ 275 (.int .i64 (s.size : Int)) (hP a1 274 (.string s) (Same.refl a1) (by decide) (by decide)) (by decide) (by decide)) (by decide) (by decide)
  revert S2
  generalize (((a1.put (some 274) (.string s)).put (some 275) (.int .i64 (s.size : Int))).put (some 276) v) = a2
  intro S2
  obtain ⟨hz2, -, -, i5, -, -, i24, -⟩ := S _ S2
  -- the prefix
  refine wp_seq ?_
  refine wp_region_lit ?_
  refine Fr.move ?_
  rw [i5]
  refine call enters46 ?_
  have e : (#[Operand.tmp 20, .tmp 277]).map (a2.put (some 277) (.string pre)).eval = #[.pointer (some ⟨b, 0, none⟩), .string pre] := by
    simp [eval_same _ _ _ (show 277 < a2.tmps.size by omega), eval_other _ 277 20 _ (by decide), i24]
  rw [e]
  refine (hK.text hbl pre (by simp; omega)).mono ?_
  rintro e' w3 ⟨v3, rfl, hK3⟩
  refine ⟨_, rfl, wpList_nil ?_⟩
  show Code.wp _ _ _ _ _
  have S3 := hP _ 278 v3 (hP _ 277 (.string pre) S2 (by decide) (by decide)) (by decide) (by decide)
  generalize (a2.put (some 277) (.string pre)).put (some 278) v3 = a3 at S3
  obtain ⟨hz3, j1, -, -, -, j23, j24, -⟩ := S _ S3
  -- the clean part
  refine wp_seq ?_
  refine wp_region_lit ?_
  refine Fr.move ?_
  rw [j1]
  refine Fr.move ?_
  rw [eval_other _ _ _ _ (show 19 ≠ 279 by decide), j23]
  refine Fr.step rfl (run_to (s := s) (i := i) Tryd.underlying9 (by rw [eval_other _ _ _ _ (by decide)]; exact eval_same _ _ _ (by omega)) (eval_same _ _ _ (by rw [size_put]; omega)) hi) ?_
  refine call enters46 ?_
  have e : ∀ c : Act, c.tmps.size = 553 → c.eval (.tmp 20) = .pointer (some ⟨b, 0, none⟩) → (#[Operand.tmp 20, .tmp 281]).map (c.put (some 281) (.string (s.extract 0 i))).eval = #[.pointer (some ⟨b, 0, none⟩), .string (s.extract 0 i)] := by
    intro c hc h24
    simp [eval_same _ _ _ (show 281 < c.tmps.size by omega), eval_other _ 281 20 _ (by decide), h24]
  rw [e _ (by simp [size_put, hz3]) (by simp [eval_other, j24])]
  have hx : (s.extract 0 i).size = i := by simp [ByteArray.size_extract]; omega
  have hpl : pre.data.toList.length = pre.size := rfl
  refine (hK3.text hbl (s.extract 0 i) (by rw [hx, List.nil_append]; omega)).mono ?_
  rintro e' w4 ⟨v4, rfl, hK4⟩
  refine ⟨_, rfl, wpList_nil ?_⟩
  show Code.wp _ _ _ _ _
  have S4 := hP _ 282 v4 (hP _ 281 (.string (s.extract 0 i)) (hP _ 280 (.int .i64 (i : Int)) (hP _ 279 (.string s) S3 (by decide) (by decide)) (by decide) (by decide)) (by decide) (by decide)) (by decide) (by decide)
  generalize (((a3.put (some 279) (.string s)).put (some 280) (.int .i64 (i : Int))).put (some 281) (.string (s.extract 0 i))).put (some 282) v4 = a4 at S4
  obtain ⟨hz4, k1, k2, -, k15, k23, k24, kd⟩ := S _ S4
  -- what is left
  refine wp_seq ?_
  refine wp_region_lit ?_
  refine Fr.move ?_
  rw [k1]
  refine Fr.move ?_
  rw [eval_other _ _ _ _ (show 19 ≠ 283 by decide), k23]
  refine Fr.step rfl (run_from (s := s) (i := i) Tryd.underlying9 (by rw [eval_other _ _ _ _ (by decide)]; exact eval_same _ _ _ (by omega)) (eval_same _ _ _ (by rw [size_put]; omega)) hi) ?_
  refine assign ?_
  refine wpList_nil ?_
  rw [eval_same _ _ _ (by simp [size_put, hz4])]
  show Code.wp _ _ _ _ _
  have hy := Lib.tail_size s i
  have hl1 : ([] ++ pre.data.toList ++ (s.extract 0 i).data.toList : List UInt8).length = pre.size + i := by
    have : (s.extract 0 i).data.toList.length = (s.extract 0 i).size := rfl
    rw [List.nil_append, List.length_append, this, hx, hpl]
  refine dtail_walk (s := s.extract i s.size) (suf := suf) hT hS hbl ⟨by simp [size_put, hz4], eval_same _ _ _ (by simp [size_put, hz4]), by simp [eval_other, k2], by simp [eval_other, k15], by simp [eval_other, k24], by simp [defers_put, kd]⟩ hK4 (by omega) (by omega) (by omega) ?_
  intro w' hb'
  have := H w' hb'
  simpa using this
def idxD (m : Int) (s : ByteArray) : Int := Lib.idxFunc (fun x => stopD m (x : Int)) true s
/-- What a text with a head and a tail of its own is read as. -/
def bodyD (m : Int) (pre suf s : ByteArray) : List UInt8 :=
  if pre.data.toList = [] ∧ suf.data.toList = [] then (if idxD m s = -1 then s.data.toList else (s.extract 0 (idxD m s).toNat).data.toList ++ decAll m (s.extract (idxD m s).toNat s.size))
  else pre.data.toList ++ decAll m s ++ suf.data.toList
theorem idxD_range (m : Int) (s : ByteArray) : idxD m s = -1 ∨ (0 ≤ idxD m s ∧ idxD m s < s.size) := by
  have := Lib.idxFuncFrom_range (fun x => stopD m (x : Int)) true s s.size 0
  unfold idxD Lib.idxFunc
  omega
theorem enters50 : Enters Tryd.prog 50 := enters_of Tryd.func50 (by kernel_rfl) rfl
theorem indexD_call (m : Int) (s : ByteArray) (b0 : Nat) (w : World) (hbox : w.heap[b0]? = some (.cells #[.int .u64 m] 39 (0, 0))) :
    Calls Tryd.prog 43 #[.string s, .func (.func 50) #[] #[.pointer (some ⟨b0, 0, none⟩)]] w fun e w' => e = .returned (.int .i64 (idxD m s)) ∧ Below w.heap.size w w' := by
  refine Shelf.Tryd.strings_IndexFunc 50 #[.pointer (some ⟨b0, 0, none⟩)] enters50 (fun x => stopD m (x : Int)) s w ?_
  intro W x hb
  have h := pred50 W ⟨b0, 0, none⟩ m (x : Int) (by rw [Lib.cell_of_heap (old_block hb hbox)]; rfl)
  exact h.mono fun e w' hh => ⟨hh.1, 0, by rw [← hh.2]; rfl⟩
set_option maxRecDepth 100000 in
set_option maxHeartbeats 2000000 in
theorem didx_walk {R : Ending → World → Prop} {s pre suf : ByteArray} {a : Act} {w0 w : World} {m : Int} (hT : Lib.Utf8Tabs 0 1 w0)
    (hz : a.tmps.size = 553) (h1 : a.eval (.tmp 1) = .string s) (h2 : a.eval (.tmp 2) = .pointer (some ⟨w0.heap.size, 0, none⟩)) (h5 : a.eval (.tmp 5) = .string pre) (h15 : a.eval (.tmp 10) = .string suf) (hd : a.defers = [])
    (hbox : w.heap[w0.heap.size]? = some (.cells #[.int .u64 m] 39 (0, 0))) (hbel : Below w0.heap.size w0 w) (hs : s.size ≤ 500000) (hpre : pre.size ≤ 500000) (hsuf : suf.size ≤ 500000) (hS : Syn w0)
    (H : ∀ w', Below w0.heap.size w0 w' → R (.returned (.string ⟨(bodyD m pre suf s).toArray⟩)) w') :
    (piece [1, 1, 1, 1, 1, 1, 1] (Tryd.f30.body.getD .skip)).wp Tryd.prog (bodyPost Tryd.prog Tryd.f30 R) a w := by
  conv => arg 2; whnf
  refine wp_seq (wp_region_lit (assign ?_))
  refine wpList_nil ?_
  rw [eval_const]
  show Code.wp _ _ _ _ _
  have e1 : (a.put (some 19) (.int .i64 0)).eval (.tmp 1) = .string s := by simp [eval_other, h1]
  have e2 : (a.put (some 19) (.int .i64 0)).eval (.tmp 2) = .pointer (some ⟨w0.heap.size, 0, none⟩) := by simp [eval_other, h2]
  have e5 : (a.put (some 19) (.int .i64 0)).eval (.tmp 5) = .string pre := by simp [eval_other, h5]
  have e15 : (a.put (some 19) (.int .i64 0)).eval (.tmp 10) = .string suf := by simp [eval_other, h15]
  have e23 : (a.put (some 19) (.int .i64 0)).eval (.tmp 19) = .int .i64 0 := eval_same _ _ _ (by omega)
  have hd1 : (a.put (some 19) (.int .i64 0)).defers = [] := by rw [defers_put]; exact hd
  have hz1 : (a.put (some 19) (.int .i64 0)).tmps.size = 553 := by rw [size_put]; exact hz
  generalize (a.put (some 19) (.int .i64 0)) = a1 at e1 e2 e5 e15 e23 hd1 hz1
  clear h1 h2 h5 h15 hd hz a
  have te : (⟨#[]⟩ : ByteArray).toList = [] := by rw [Lib.toList_data]
  have S : ∀ c : Act, Same 260 275 a1 c → c.tmps.size = 553 ∧ c.eval (.tmp 1) = .string s ∧ c.eval (.tmp 2) = .pointer (some ⟨w0.heap.size, 0, none⟩) ∧ c.eval (.tmp 5) = .string pre ∧ c.eval (.tmp 10) = .string suf ∧ c.eval (.tmp 19) = .int .i64 0 ∧ c.defers = [] := fun c hc =>
    ⟨hc.size.trans hz1, (hc.slot 1 (by decide)).trans e1, (hc.slot 2 (by decide)).trans e2, (hc.slot 5 (by decide)).trans e5, (hc.slot 10 (by decide)).trans e15, (hc.slot 19 (by decide)).trans e23, hc.defers.trans hd1⟩
  refine wp_seq ?_
  refine wp_seq ?_
  refine wp_region_lit ?_
  refine Fr.move ?_
  rw [e5]
  refine Fr.step rfl (run_eqls (s1 := pre) (s2 := ⟨#[]⟩) Tryd.underlying9 (eval_same _ _ _ (by omega)) rfl) ?_
  rw [te]
  refine Fr.move ?_
  rw [eval_same _ _ _ (by rw [size_put]; omega)]
  have S1 : Same 260 275 a1 (((a1.put (some 262) (.string pre)).put (some 263) (.bool (pre.toList == []))).put (some 264) (.bool (pre.toList == []))) := (((Same.refl a1).put _ _ (by decide) (by decide)).put _ _ (by decide) (by decide)).put _ _ (by decide) (by decide)
  have e264 := eval_same ((a1.put (some 262) (.string pre)).put (some 263) (.bool (pre.toList == []))) 264 (.bool (pre.toList == [])) (by simp [size_put, hz1])
  show wpList _ _ _ _ (((a1.put (some 262) (.string pre)).put (some 263) (.bool (pre.toList == []))).put (some 264) (.bool (pre.toList == []))) w
  generalize (((a1.put (some 262) (.string pre)).put (some 263) (.bool (pre.toList == []))).put (some 264) (.bool (pre.toList == []))) = a2 at S1 e264
  obtain ⟨hz2, -, -, -, i15, -, -⟩ := S _ S1
  have key : ∀ (a3 : Act), Same 260 275 a1 a3 → a3.eval (.tmp 267) = .bool (decide (pre.data.toList = [] ∧ suf.data.toList = [])) →
      (piece [1, 1, 1, 1, 1, 1, 1, 1, 0, 1] (Tryd.f30.body.getD .skip)).wp Tryd.prog (Exit.then ((piece [1, 1, 1, 1, 1, 1, 1, 1, 1] (Tryd.f30.body.getD .skip)).wp Tryd.prog (bodyPost Tryd.prog Tryd.f30 R)) (bodyPost Tryd.prog Tryd.f30 R)) a3 w := by
    intro a3 S3 e267
    obtain ⟨hz3, k1, k2, k5, k15, k23, kd⟩ := S _ S3
    have fin : ∀ (a4 : Act) (w4 : World) (j : Int), Same 260 275 a1 a4 ∨ (∃ b : Act, Same 260 275 a1 b ∧ a4 = b.put (some 19) (.int .i64 j)) → a4.eval (.tmp 19) = .int .i64 j → w4.heap[w0.heap.size]? = some (.cells #[.int .u64 m] 39 (0, 0)) → Below w0.heap.size w0 w4 → (j = -1 ∨ (0 ≤ j ∧ j ≤ s.size)) →
        (∀ w', Below w0.heap.size w0 w' → R (.returned (.string ⟨(if j = -1 then s.data.toList else pre.data.toList ++ (s.extract 0 j.toNat).data.toList ++ decAll m (s.extract j.toNat s.size) ++ suf.data.toList).toArray⟩)) w') →
        (piece [1, 1, 1, 1, 1, 1, 1, 1, 1] (Tryd.f30.body.getD .skip)).wp Tryd.prog (bodyPost Tryd.prog Tryd.f30 R) a4 w4 := by
      intro a4 w4 j h4 g23 gbox gbel gj gR
      have hh : a4.tmps.size = 553 ∧ a4.eval (.tmp 1) = .string s ∧ a4.eval (.tmp 2) = .pointer (some ⟨w0.heap.size, 0, none⟩) ∧ a4.eval (.tmp 5) = .string pre ∧ a4.eval (.tmp 10) = .string suf ∧ a4.defers = [] := by
        rcases h4 with h4 | ⟨b, h4, rfl⟩
        · obtain ⟨x1, x2, x3, x4, x5, _, x7⟩ := S _ h4
          exact ⟨x1, x2, x3, x4, x5, x7⟩
        · obtain ⟨x1, x2, x3, x4, x5, _, x7⟩ := S _ h4
          exact ⟨by rw [size_put]; exact x1, (eval_other _ _ _ _ (by decide)).trans x2, (eval_other _ _ _ _ (by decide)).trans x3, (eval_other _ _ _ _ (by decide)).trans x4, (eval_other _ _ _ _ (by decide)).trans x5, (defers_put _ _ _).trans x7⟩
      obtain ⟨x1, x2, x3, x4, x5, x6⟩ := hh
      conv => arg 2; whnf
      refine wp_seq ?_
      refine wp_seq ?_
      refine wp_region_lit ?_
      refine Fr.move ?_
      rw [g23]
      refine Fr.step rfl (run_eqli (m := j) (n := -1) Tryd.underlying3 (eval_same _ _ _ (by omega)) rfl) ?_
      refine wpList_nil ?_
      show Code.wp _ _ _ _ _
      refine wp_cond (eval_same _ _ _ (by rw [size_put]; omega)) ?_
      have y1 : ((a4.put (some 271) (.int .i64 j)).put (some 272) (.bool (j == -1))).eval (.tmp 1) = .string s := by simp [eval_other, x2]
      have y2 : ((a4.put (some 271) (.int .i64 j)).put (some 272) (.bool (j == -1))).eval (.tmp 2) = .pointer (some ⟨w0.heap.size, 0, none⟩) := by simp [eval_other, x3]
      have y5 : ((a4.put (some 271) (.int .i64 j)).put (some 272) (.bool (j == -1))).eval (.tmp 5) = .string pre := by simp [eval_other, x4]
      have y15 : ((a4.put (some 271) (.int .i64 j)).put (some 272) (.bool (j == -1))).eval (.tmp 10) = .string suf := by simp [eval_other, x5]
      have y23 : ((a4.put (some 271) (.int .i64 j)).put (some 272) (.bool (j == -1))).eval (.tmp 19) = .int .i64 j := by simp [eval_other, g23]
      have yd : ((a4.put (some 271) (.int .i64 j)).put (some 272) (.bool (j == -1))).defers = [] := by simp [defers_put, x6]
      have yz : ((a4.put (some 271) (.int .i64 j)).put (some 272) (.bool (j == -1))).tmps.size = 553 := by simp [size_put, x1]
      generalize ((a4.put (some 271) (.int .i64 j)).put (some 272) (.bool (j == -1))) = a5 at y1 y2 y5 y15 y23 yd yz
      by_cases hj : j = -1
      · rw [if_pos (by simpa using hj)]
        refine wp_seq ?_
        refine wp_region_lit ?_
        refine Fr.move ?_
        rw [y1]
        refine assign ?_
        refine wpList_nil ?_
        rw [eval_same _ _ _ (by omega)]
        show Code.wp _ _ _ _ _
        refine wp_ret ?_
        refine ret30 (by simp [defers_put, yd]) (eval_same _ _ _ (by rw [size_put]; omega)) ?_
        have := gR w4 gbel
        rw [if_pos hj] at this
        simpa using this
      · rw [if_neg (by simpa using hj)]
        refine wp_skip ?_
        show Code.wp _ _ _ _ _
        obtain ⟨i, rfl⟩ := Int.eq_ofNat_of_zero_le (show 0 ≤ j by omega)
        refine dpre_walk (s := s) (pre := pre) (suf := suf) (i := i) hT yz y1 y2 y5 y15 y23 yd gbox gbel hs hpre hsuf (by omega) hS ?_
        intro w' hb'
        have := gR w' hb'
        rw [if_neg (by omega)] at this
        simpa using this
    conv => arg 2; whnf
    refine wp_cond e267 ?_
    by_cases hc : pre.data.toList = [] ∧ suf.data.toList = []
    · rw [if_pos (by simpa using hc)]
      refine wp_region_lit ?_
      refine Fr.move ?_
      rw [k1]
      refine Fr.step rfl (run_func (v := .pointer (some ⟨w0.heap.size, 0, none⟩)) (by rw [eval_other _ _ _ _ (by decide)]; exact k2)) ?_
      refine call enters43 ?_
      have e : (#[Operand.tmp 268, .tmp 269]).map ((a3.put (some 268) (.string s)).put (some 269) (.func (.func 50) #[] #[.pointer (some ⟨w0.heap.size, 0, none⟩)])).eval = #[.string s, .func (.func 50) #[] #[.pointer (some ⟨w0.heap.size, 0, none⟩)]] := by
        have q1 : ((a3.put (some 268) (.string s)).put (some 269) (.func (.func 50) #[] #[.pointer (some ⟨w0.heap.size, 0, none⟩)])).eval (.tmp 268) = .string s := by rw [eval_other _ _ _ _ (by decide)]; exact eval_same _ _ _ (by omega)
        have q2 : ((a3.put (some 268) (.string s)).put (some 269) (.func (.func 50) #[] #[.pointer (some ⟨w0.heap.size, 0, none⟩)])).eval (.tmp 269) = .func (.func 50) #[] #[.pointer (some ⟨w0.heap.size, 0, none⟩)] := eval_same _ _ _ (by rw [size_put]; omega)
        simp only [List.map_toArray, List.map_cons, List.map_nil, q1, q2]
      rw [e]
      refine (indexD_call m s w0.heap.size w hbox).mono ?_
      rintro e' w4 ⟨rfl, hb4⟩
      refine ⟨_, rfl, ?_⟩
      refine assign ?_
      refine wpList_nil ?_
      rw [eval_same _ _ _ (by simp [size_put, hz3])]
      have S4 : Same 260 275 a1 (((a3.put (some 268) (.string s)).put (some 269) (.func (.func 50) #[] #[.pointer (some ⟨w0.heap.size, 0, none⟩)])).put (some 270) (.int .i64 (idxD m s))) := ((S3.put _ _ (by decide) (by decide)).put _ _ (by decide) (by decide)).put _ _ (by decide) (by decide)
      have hir := idxD_range m s
      refine fin _ w4 (idxD m s) (.inr ⟨_, S4, rfl⟩) (eval_same _ _ _ (by simp [size_put, hz3])) (old_block hb4 hbox) (hbel.trans (hb4.mono hbel.size)) (by omega) ?_
      intro w' hb'
      have := H w' hb'
      rw [bodyD, if_pos hc] at this
      rw [hc.1, hc.2]
      simpa using this
    · rw [if_neg (by simpa using hc)]
      refine wp_skip ?_
      refine fin _ w 0 (.inl S3) k23 hbox hbel (by omega) ?_
      intro w' hb'
      have := H w' hb'
      rw [bodyD, if_neg hc] at this
      rw [if_neg (by decide)]
      have z : (s.extract 0 0).data.toList = [] := by simp
      simpa [z] using this
  by_cases hp : pre.data.toList = []
  · have hb : (pre.toList == []) = true := by rw [Lib.toList_data]; simp [hp]
    rw [hb] at e264
    refine guard_yes (j := 2) (b := true) (d := 264) rfl rfl (by omega) e264 rfl ?_
    rw [i15]
    refine guard_yes (j := 2) (b := true) (d := 264) rfl rfl (by rw [size_put]; omega) (by rw [eval_other _ _ _ _ (by decide)]; exact e264) (run_eqls (s1 := suf) (s2 := ⟨#[]⟩) Tryd.underlying9 (eval_same _ _ _ (by omega)) rfl) ?_
    rw [te]
    refine Fr.step rfl (run_pick (b := true) (by rw [eval_other _ _ _ _ (by decide), eval_other _ _ _ _ (by decide)]; exact e264)) ?_
    rw [if_pos rfl, eval_same _ _ _ (by rw [size_put]; omega)]
    refine wpList_nil ?_
    refine key _ (((S1.put _ _ (by decide) (by decide)).put _ _ (by decide) (by decide)).put _ _ (by decide) (by decide)) ?_
    rw [eval_same _ _ _ (by simp [size_put, hz2]), Lib.toList_data]
    congr 1
    rw [Bool.eq_iff_iff]
    simp [hp]
  · have hb : (pre.toList == []) = false := by rw [Lib.toList_data]; simpa using hp
    rw [hb] at e264
    refine guard_no (j := 2) (b := true) (c := false) (d := 264) rfl rfl (by omega) e264 (by decide) ?_
    refine guard_no (j := 2) (b := true) (c := false) (d := 264) rfl rfl (by rw [size_put]; omega) (by rw [eval_other _ _ _ _ (by decide)]; exact e264) (by decide) ?_
    refine Fr.step rfl (run_pick (b := false) (by rw [eval_other _ _ _ _ (by decide), eval_other _ _ _ _ (by decide)]; exact e264)) ?_
    rw [if_neg (by decide), eval_const]
    refine wpList_nil ?_
    refine key _ (((S1.put _ _ (by decide) (by decide)).put _ _ (by decide) (by decide)).put _ _ (by decide) (by decide)) ?_
    rw [eval_same _ _ _ (by simp [size_put, hz2])]
    congr 1
    rw [Bool.eq_iff_iff]
    simp [hp]
end Go.Proofs.YtlgoghonnnobfaaDoor.Dec
namespace Go.Proofs.YtlgoghonnnobfaaDoor.Dec
open Go Go.RowKit Go.Proofs.YtlgoghonnnobfaaDoor.Fr Go.Proofs.YtlgoghonnnobfaaDoor.Enc
set_option linter.unusedVariables false
set_option linter.unusedSimpArgs false
/-! ### the whole decoder -/
def decodeT (m : Int) (s : ByteArray) : ByteArray := ⟨(bodyD m (dheads m s).1 (dtails m (dheads m s).2).1 (dtails m (dheads m s).2).2).toArray⟩
def decode (m : Int) (s : ByteArray) : ByteArray :=
  if m = 1 then s
  else if hb m 33554432 = true ∧ s.data.toList = [239, 188, 142] then ⟨#[46]⟩
  else if hb m 33554432 = true ∧ s.data.toList = [239, 188, 142, 239, 188, 142] then ⟨#[46, 46]⟩
  else if hb m 33554432 = true ∧ s.data.toList = [226, 128, 155, 239, 188, 142] then ⟨#[239, 188, 142]⟩
  else if hb m 33554432 = true ∧ s.data.toList = [226, 128, 155, 239, 188, 142, 226, 128, 155, 239, 188, 142] then ⟨#[239, 188, 142, 239, 188, 142]⟩
  else decodeT m s
theorem one_short (c : Nat) : (one c).size ≤ 100 := (by decide : 1 ≤ 100)
theorem sgn_short (c : Nat) : (sgn c).size ≤ 100 := (by decide : 3 ≤ 100)
theorem dleft_short {m : Int} {r : Nat} {h : ByteArray} (e : dleft m r = some h) : h.size ≤ 100 := by
  unfold dleft at e
  repeat' (split at e)
  all_goals first | (injection e with e; rw [← e]; first | exact one_short _ | exact (by decide : 1 ≤ 100)) | cases e
theorem dleftq_short {m : Int} {r : Nat} {h : ByteArray} (e : dleftq m r = some h) : h.size ≤ 100 := by
  unfold dleftq at e
  repeat' (split at e)
  all_goals first | (injection e with e; rw [← e]; first | exact sgn_short _ | exact (by decide : 3 ≤ 100)) | cases e
theorem dright_short {m : Int} {r : Nat} {h : ByteArray × ByteArray} (e : dright m r = some h) : h.1.size ≤ 100 ∧ h.2.size ≤ 100 := by
  unfold dright at e
  repeat' (split at e)
  all_goals first | (injection e with e; rw [← e]; first | exact ⟨one_short _, sgn_short _⟩ | exact ⟨(by decide : 1 ≤ 100), (by decide : 3 ≤ 100)⟩) | cases e
theorem dheads_short (m : Int) (s : ByteArray) : (dheads m s).1.size ≤ 100 ∧ (dheads m s).2.size ≤ s.size := by
  unfold dheads
  split
  · rename_i h e
    exact ⟨dleft_short e, by rw [cut_size]; omega⟩
  · split
    · split
      · rename_i h e
        exact ⟨dleftq_short e, by rw [cut_size]; omega⟩
      · exact ⟨(by decide : 0 ≤ 100), Nat.le_refl _⟩
    · exact ⟨(by decide : 0 ≤ 100), Nat.le_refl _⟩
theorem ext0_le (s : ByteArray) (n : Nat) : (s.extract 0 n).size ≤ s.size := by simp [ByteArray.size_extract]; omega
theorem dtails_short (m : Int) (s : ByteArray) : (dtails m s).1.size ≤ 100 ∧ (dtails m s).2.size ≤ s.size := by
  unfold dtails
  split
  · rename_i h e
    split
    · exact ⟨(dright_short e).2, Nat.le_trans (ext0_le _ _) (ext0_le _ _)⟩
    · exact ⟨(dright_short e).1, ext0_le _ _⟩
  · exact ⟨(by decide : 0 ≤ 100), Nat.le_refl _⟩
set_option maxRecDepth 100000 in
set_option maxHeartbeats 2000000 in
/-- From the head of the text on. -/
theorem dfrom_head {R : Ending → World → Prop} {a : Act} {w0 w : World} {m : Int} {s : ByteArray} (hT : Lib.Utf8Tabs 0 1 w0) (hS : Syn w0) (hz : a.tmps.size = 553) (h1 : a.eval (.tmp 1) = .string s) (h2 : a.eval (.tmp 2) = .pointer (some ⟨w0.heap.size, 0, none⟩)) (hd : a.defers = []) (hW : WB w0 m w) (hle : s.size ≤ 400000)
    (H : ∀ w', Below w0.heap.size w0 w' → R (.returned (.string (decodeT m s))) w') :
    (piece [1, 1, 1] (Tryd.f30.body.getD .skip)).wp Tryd.prog (bodyPost Tryd.prog Tryd.f30 R) a w := by
  have sh := dheads_short m s
  have st := dtails_short m (dheads m s).2
  conv => arg 2; whnf
  refine wp_seq (wp_region_lit (lassign (v := .string ⟨#[]⟩) rfl ?_))
  refine wpList_nil ?_
  show Code.wp _ _ _ _ _
  have hA : DH s ⟨#[]⟩ ⟨w0.heap.size, 0, none⟩ (a.put (some 5) (.string ⟨#[]⟩)) := ⟨by rw [size_put]; exact hz, (eval_other _ _ _ _ (by decide)).trans h1, (eval_other _ _ _ _ (by decide)).trans h2, eval_same _ _ _ (by rw [hz]; decide), (defers_put _ _ _).trans hd⟩
  generalize a.put (some 5) (.string ⟨#[]⟩) = a1 at hA
  refine wp_seq ?_
  refine dlead hT hA hW (by omega) fun a2 w2 hA2 hW2 => ?_
  show Code.wp _ _ _ _ _
  refine wp_seq (wp_region_lit (lassign (v := .string ⟨#[]⟩) rfl ?_))
  refine wpList_nil ?_
  show Code.wp _ _ _ _ _
  have hB : DT (dheads m s).2 (dheads m s).1 ⟨#[]⟩ ⟨w0.heap.size, 0, none⟩ (a2.put (some 10) (.string ⟨#[]⟩)) := ⟨by rw [size_put]; exact hA2.size, (eval_other _ _ _ _ (by decide)).trans hA2.s1, (eval_other _ _ _ _ (by decide)).trans hA2.s2, (eval_other _ _ _ _ (by decide)).trans hA2.s5, eval_same _ _ _ (by rw [hA2.size]; decide), (defers_put _ _ _).trans hA2.defers⟩
  generalize a2.put (some 10) (.string ⟨#[]⟩) = a3 at hB
  refine wp_seq ?_
  refine dtrail hT hB hW2 (by omega) fun a4 w4 hB4 hW4 => ?_
  show Code.wp _ _ _ _ _
  refine didx_walk (s := (dtails m (dheads m s).2).2) (pre := (dheads m s).1) (suf := (dtails m (dheads m s).2).1) (m := m) hT hB4.size hB4.s1 hB4.s2 hB4.s5 hB4.s10 hB4.defers hW4.box hW4.below (by omega) (by omega) (by omega) hS ?_
  exact H
theorem r_giveb {R : Ending → World → Prop} {b : Nat} {a : Act} {w : World} {c : ByteArray} {id : Nat} {p : String} {f : Array Edge} {K : Act → World → Prop} (hz : a.tmps.size = 553) (hd : a.defers = []) (H : R (.returned (.string c)) w) :
    ((Code.region id #[{ dst := some 4, op := .assign (.const (.string c)), type := 9, pos := p, after := f, guard := none }] false).seq Code.ret).wp Tryd.prog (Exit.inBlock b (Exit.then K (bodyPost Tryd.prog Tryd.f30 R))) a w := by
  refine wp_seq (wp_region_lit (assign ?_))
  refine wpList_nil ?_
  show Code.wp _ _ _ _ _
  refine wp_ret ?_
  rw [eval_const]
  show bodyPost Tryd.prog Tryd.f30 R .ret _ _
  exact ret30 (by rw [defers_put]; exact hd) (eval_same _ _ _ (by rw [hz]; decide)) H
structure DC (s : ByteArray) (pm : Addr) (a : Act) : Prop where
  size : a.tmps.size = 553
  s1 : a.eval (.tmp 1) = .string s
  s2 : a.eval (.tmp 2) = .pointer (some pm)
  defers : a.defers = []
theorem DC.put {s : ByteArray} {pm : Addr} {a : Act} (h : DC s pm a) (d : Nat) (v : Value) (h1 : 2 < d) : DC s pm (a.put (some d) v) :=
  ⟨(size_put _ _ _).trans h.size, (eval_other _ _ _ _ (by omega)).trans h.s1, (eval_other _ _ _ _ (by omega)).trans h.s2, (defers_put _ _ _).trans h.defers⟩
set_option maxRecDepth 100000 in
set_option maxHeartbeats 2000000 in
/-- MultiEncoder.Decode. -/
theorem decode_any (m : Int) (s : ByteArray) (w0 : World) (hT : Lib.Utf8Tabs 0 1 w0) (hS : Syn w0) (hle : s.size ≤ 400000) :
    Calls Tryd.prog 30 #[.int .u64 m, .string s] w0 fun e w' => e = .returned (.string (decode m s)) ∧ Below w0.heap.size w0 w' := by
  refine calls_of_wp Tryd.func30 rfl ?_
  have hz : (⟨#[Value.int .u64 m, .string s] ++ Array.replicate (Tryd.f30.ntmps - (#[Value.int .u64 m, .string s] : Array Value).size) undef, []⟩ : Act).tmps.size = 553 := by
    have h : Tryd.f30.ntmps = 553 := by kernel_rfl
    simp [h]
  have e0 : (⟨#[Value.int .u64 m, .string s] ++ Array.replicate (Tryd.f30.ntmps - (#[Value.int .u64 m, .string s] : Array Value).size) undef, []⟩ : Act).eval (.tmp 0) = .int .u64 m := by
    simp [Act.eval, Array.getElem?_append]
  have e1 : (⟨#[Value.int .u64 m, .string s] ++ Array.replicate (Tryd.f30.ntmps - (#[Value.int .u64 m, .string s] : Array Value).size) undef, []⟩ : Act).eval (.tmp 1) = .string s := by
    simp [Act.eval, Array.getElem?_append]
  have hd : (⟨#[Value.int .u64 m, .string s] ++ Array.replicate (Tryd.f30.ntmps - (#[Value.int .u64 m, .string s] : Array Value).size) undef, []⟩ : Act).defers = [] := rfl
  generalize (⟨#[Value.int .u64 m, .string s] ++ Array.replicate (Tryd.f30.ntmps - (#[Value.int .u64 m, .string s] : Array Value).size) undef, []⟩ : Act) = a at hz e0 e1 hd
  have hb1 : Below w0.heap.size w0 (w0.alloc (.cells #[.int .u64 m] 39)) := (Below.refl _ w0).alloc (Nat.le_refl _) _
  have hW : WB w0 m (w0.alloc (.cells #[.int .u64 m] 39)) := ⟨heap_alloc_new w0 _, hb1⟩
  have te : (⟨#[]⟩ : ByteArray).toList = [] := by rw [Lib.toList_data]
  refine wp_seq ?_
  refine wp_region_lit ?_
  refine Fr.step rfl (run_box Tryd.underlying39 e0) ?_
  refine assign ?_
  refine wpList_nil ?_
  rw [eval_const]
  show Code.wp _ _ _ _ _
  have hA : DC s ⟨w0.heap.size, 0, none⟩ ((a.put (some 2) (.pointer (some ⟨w0.heap.size, 0, none⟩))).put (some 4) (.string ⟨#[]⟩)) := ⟨by simp only [size_put]; exact hz, by rw [eval_other _ _ _ _ (by decide), eval_other _ _ _ _ (by decide)]; exact e1, by rw [eval_other _ _ _ _ (by decide)]; exact eval_same _ _ _ (by rw [hz]; decide), by simp only [defers_put]; exact hd⟩
  generalize (a.put (some 2) (.pointer (some ⟨w0.heap.size, 0, none⟩))).put (some 4) (.string ⟨#[]⟩) = a1 at hA
  generalize w0.alloc (.cells #[.int .u64 m] 39) = w at hW
  clear hb1 hz e0 e1 hd a
  -- the mask that is Raw alone
  refine wp_seq ?_
  refine wp_seq ?_
  refine wp_region_lit ?_
  refine Fr.load Tryd.underlying39 hA.s2 hW.cell ?_
  refine Fr.step rfl (run_eqli (m := m) (n := 1) Tryd.underlying39 (eval_same _ _ _ (by rw [hA.size]; decide)) rfl) ?_
  refine wpList_nil ?_
  show Code.wp _ _ _ _ _
  have hA2 := (hA.put 28 (.int .u64 m) (by decide)).put 29 (.bool (m == 1)) (by decide)
  have t2 := eval_same (a1.put (some 28) (.int .u64 m)) 29 (.bool (m == 1)) (by rw [size_put, hA.size]; decide)
  generalize (a1.put (some 28) (.int .u64 m)).put (some 29) (.bool (m == 1)) = a2 at hA2 t2
  refine wp_cond t2 ?_
  by_cases c1 : m = 1
  · rw [if_pos (by simpa using c1)]
    refine wp_seq (wp_region_lit (Fr.move ?_))
    rw [hA2.s1]
    refine assign ?_
    refine wpList_nil ?_
    rw [eval_same _ _ _ (by rw [hA2.size]; decide)]
    show Code.wp _ _ _ _ _
    refine wp_ret ?_
    show bodyPost Tryd.prog Tryd.f30 (fun e w' => e = .returned (.string (decode m s)) ∧ Below w0.heap.size w0 w') .ret _ _
    exact ret30 (by simp only [defers_put]; exact hA2.defers) (eval_same _ _ _ (by rw [size_put, hA2.size]; decide)) ⟨by rw [decode, if_pos c1], hW.below⟩
  rw [if_neg (by simpa using c1)]
  refine wp_skip ?_
  show Code.wp _ _ _ _ _
  -- the names of points
  refine wp_seq ?_
  refine wp_seq (r_has (by rw [hA2.size]; decide) hA2.s2 hW.cell ?_)
  show Code.wp _ _ _ _ _
  have hA4 := (hA2.put 31 (.int .u64 m) (by decide)).put (31 + 1) (.bool (hb m 33554432)) (by decide)
  have t4 := eval_same (a2.put (some 31) (.int .u64 m)) (31 + 1) (.bool (hb m 33554432)) (by rw [size_put, hA2.size]; decide)
  generalize (a2.put (some 31) (.int .u64 m)).put (some (31 + 1)) (.bool (hb m 33554432)) = a4 at hA4 t4
  refine wp_cond t4 ?_
  have rest : ∀ b : Act, DC s ⟨w0.heap.size, 0, none⟩ b → decode m s = decodeT m s → (piece [1, 1, 1] (Tryd.f30.body.getD .skip)).wp Tryd.prog (bodyPost Tryd.prog Tryd.f30 (fun e w' => e = .returned (.string (decode m s)) ∧ Below w0.heap.size w0 w')) b w := fun b hB he =>
    dfrom_head hT hS hB.size hB.s1 hB.s2 hB.defers hW hle fun w' hb' => ⟨by rw [he], hb'⟩
  cases hh : hb m 33554432 with
  | false =>
    rw [if_neg (by decide)]
    exact wp_skip (rest _ hA4 (by rw [decode, if_neg c1, if_neg (by simp [hh]), if_neg (by simp [hh]), if_neg (by simp [hh]), if_neg (by simp [hh])]))
  | true =>
    rw [if_pos rfl]
    refine wp_seq (r_move ?_)
    show Code.wp _ _ _ _ _
    rw [hA4.s1]
    have hA5 := hA4.put 33 (.string s) (by decide)
    have e33 := eval_same a4 33 (.string s) (by rw [hA4.size]; decide)
    generalize a4.put (some 33) (.string s) = a5 at hA5 e33
    refine wp_block ?_
    have test : ∀ (b : Act) (t : Nat) (c : ByteArray), DC s ⟨w0.heap.size, 0, none⟩ b → b.eval (.tmp 33) = .string s → 33 < t → t + 1 < 553 → DC s ⟨w0.heap.size, 0, none⟩ ((b.put (some (t + 1)) (.bool (s.toList == c.toList))).put (some t) (.bool (s.toList == c.toList))) ∧ ((b.put (some (t + 1)) (.bool (s.toList == c.toList))).put (some t) (.bool (s.toList == c.toList))).eval (.tmp 33) = .string s ∧ ((b.put (some (t + 1)) (.bool (s.toList == c.toList))).put (some t) (.bool (s.toList == c.toList))).eval (.tmp t) = .bool (s.toList == c.toList) := by
      intro b t c hB hb' h1 h2
      exact ⟨(hB.put _ _ (by omega)).put _ _ (by omega), by rw [eval_other _ _ _ _ (by omega), eval_other _ _ _ _ (by omega)]; exact hb', eval_same _ _ _ (by rw [size_put, hB.size]; omega)⟩
    have cmp : ∀ l : List UInt8, (s.toList == (⟨l.toArray⟩ : ByteArray).toList) = decide (s.data.toList = l) := by
      intro l
      rw [Lib.toList_data, Lib.toList_data, Bool.eq_iff_iff]
      simp
    obtain ⟨i1, i2, i3⟩ := test a5 34 ⟨#[239, 188, 142]⟩ hA5 e33 (by decide) (by decide)
    refine wp_seq (r_eqs e33 (by rw [hA5.size]; decide) ?_)
    show Code.wp _ _ _ _ _
    generalize (a5.put (some (34 + 1)) (.bool (s.toList == (⟨#[239, 188, 142]⟩ : ByteArray).toList))).put (some 34) (.bool (s.toList == (⟨#[239, 188, 142]⟩ : ByteArray).toList)) = a6 at i1 i2 i3
    refine wp_cond i3 ?_
    have q1 := cmp [239, 188, 142]
    by_cases d1 : s.data.toList = [239, 188, 142]
    · rw [if_pos (by rw [show (⟨#[239, 188, 142]⟩ : ByteArray) = ⟨([239, 188, 142] : List UInt8).toArray⟩ from rfl, q1]; simp [d1])]
      exact r_giveb i1.size i1.defers ⟨by rw [decode, if_neg c1, if_pos ⟨hh, d1⟩], hW.below⟩
    rw [if_neg (by rw [show (⟨#[239, 188, 142]⟩ : ByteArray) = ⟨([239, 188, 142] : List UInt8).toArray⟩ from rfl, q1]; simp [d1])]
    obtain ⟨j1, j2, j3⟩ := test a6 36 ⟨#[239, 188, 142, 239, 188, 142]⟩ i1 i2 (by decide) (by decide)
    refine wp_seq (r_eqs i2 (by rw [i1.size]; decide) ?_)
    show Code.wp _ _ _ _ _
    generalize (a6.put (some (36 + 1)) (.bool (s.toList == (⟨#[239, 188, 142, 239, 188, 142]⟩ : ByteArray).toList))).put (some 36) (.bool (s.toList == (⟨#[239, 188, 142, 239, 188, 142]⟩ : ByteArray).toList)) = a7 at j1 j2 j3
    refine wp_cond j3 ?_
    have q2 := cmp [239, 188, 142, 239, 188, 142]
    by_cases d2 : s.data.toList = [239, 188, 142, 239, 188, 142]
    · rw [if_pos (by rw [show (⟨#[239, 188, 142, 239, 188, 142]⟩ : ByteArray) = ⟨([239, 188, 142, 239, 188, 142] : List UInt8).toArray⟩ from rfl, q2]; simp [d2])]
      exact r_giveb j1.size j1.defers ⟨by rw [decode, if_neg c1, if_neg (fun h => d1 h.2), if_pos ⟨hh, d2⟩], hW.below⟩
    rw [if_neg (by rw [show (⟨#[239, 188, 142, 239, 188, 142]⟩ : ByteArray) = ⟨([239, 188, 142, 239, 188, 142] : List UInt8).toArray⟩ from rfl, q2]; simp [d2])]
    obtain ⟨l1, l2, l3⟩ := test a7 38 ⟨#[226, 128, 155, 239, 188, 142]⟩ j1 j2 (by decide) (by decide)
    refine wp_seq (r_eqs j2 (by rw [j1.size]; decide) ?_)
    show Code.wp _ _ _ _ _
    generalize (a7.put (some (38 + 1)) (.bool (s.toList == (⟨#[226, 128, 155, 239, 188, 142]⟩ : ByteArray).toList))).put (some 38) (.bool (s.toList == (⟨#[226, 128, 155, 239, 188, 142]⟩ : ByteArray).toList)) = a8 at l1 l2 l3
    refine wp_cond l3 ?_
    have q3 := cmp [226, 128, 155, 239, 188, 142]
    by_cases d3 : s.data.toList = [226, 128, 155, 239, 188, 142]
    · rw [if_pos (by rw [show (⟨#[226, 128, 155, 239, 188, 142]⟩ : ByteArray) = ⟨([226, 128, 155, 239, 188, 142] : List UInt8).toArray⟩ from rfl, q3]; simp [d3])]
      exact r_giveb l1.size l1.defers ⟨by rw [decode, if_neg c1, if_neg (fun h => d1 h.2), if_neg (fun h => d2 h.2), if_pos ⟨hh, d3⟩], hW.below⟩
    rw [if_neg (by rw [show (⟨#[226, 128, 155, 239, 188, 142]⟩ : ByteArray) = ⟨([226, 128, 155, 239, 188, 142] : List UInt8).toArray⟩ from rfl, q3]; simp [d3])]
    obtain ⟨n1, n2, n3⟩ := test a8 40 ⟨#[226, 128, 155, 239, 188, 142, 226, 128, 155, 239, 188, 142]⟩ l1 l2 (by decide) (by decide)
    refine wp_seq (r_eqs l2 (by rw [l1.size]; decide) ?_)
    show Code.wp _ _ _ _ _
    generalize (a8.put (some (40 + 1)) (.bool (s.toList == (⟨#[226, 128, 155, 239, 188, 142, 226, 128, 155, 239, 188, 142]⟩ : ByteArray).toList))).put (some 40) (.bool (s.toList == (⟨#[226, 128, 155, 239, 188, 142, 226, 128, 155, 239, 188, 142]⟩ : ByteArray).toList)) = a9 at n1 n2 n3
    refine wp_cond n3 ?_
    have q4 := cmp [226, 128, 155, 239, 188, 142, 226, 128, 155, 239, 188, 142]
    by_cases d4 : s.data.toList = [226, 128, 155, 239, 188, 142, 226, 128, 155, 239, 188, 142]
    · rw [if_pos (by rw [show (⟨#[226, 128, 155, 239, 188, 142, 226, 128, 155, 239, 188, 142]⟩ : ByteArray) = ⟨([226, 128, 155, 239, 188, 142, 226, 128, 155, 239, 188, 142] : List UInt8).toArray⟩ from rfl, q4]; simp [d4])]
      exact r_giveb n1.size n1.defers ⟨by rw [decode, if_neg c1, if_neg (fun h => d1 h.2), if_neg (fun h => d2 h.2), if_neg (fun h => d3 h.2), if_pos ⟨hh, d4⟩], hW.below⟩
    rw [if_neg (by rw [show (⟨#[226, 128, 155, 239, 188, 142, 226, 128, 155, 239, 188, 142]⟩ : ByteArray) = ⟨([226, 128, 155, 239, 188, 142, 226, 128, 155, 239, 188, 142] : List UInt8).toArray⟩ from rfl, q4]; simp [d4])]
    refine wp_skip ?_
    exact rest _ n1 (by rw [decode, if_neg c1, if_neg (fun h => d1 h.2), if_neg (fun h => d2 h.2), if_neg (fun h => d3 h.2), if_neg (fun h => d4 h.2)])
end Go.Proofs.YtlgoghonnnobfaaDoor.Dec
