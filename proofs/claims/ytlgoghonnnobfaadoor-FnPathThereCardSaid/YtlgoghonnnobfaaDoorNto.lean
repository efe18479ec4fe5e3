import Derived.Test.YtlgoghonnnobfaaDoorMd
import Derived.Test.YtlgoghonnnobfaaDoorMe
import Derived.Test.YtlgoghonnnobfaaDoorSdp
import Derived.Test.YtlgoghonnnobfaaDoorWMore
namespace Go.Proofs.YtlgoghonnnobfaaDoor.Nto
open Go Go.RowKit Go.Proofs.YtlgoghonnnobfaaDoorW.PrintWords Go.Proofs.YtlgoghonnnobfaaDoorW.PrintLast Go.Proofs.YtlgoghonnnobfaaDoorW.PrintMore
open Go.Proofs.YtlgoghonnnobfaaDoor.Fr Go.Proofs.YtlgoghonnnobfaaDoor.Tok Go.Proofs.YtlgoghonnnobfaaDoor.Out Go.Proofs.YtlgoghonnnobfaaDoor.Sdp
set_option linter.unusedVariables false
set_option linter.unusedSimpArgs false
/-! ### names in the Standard's writing, walked -/
theorem enc_one {c : Nat} (h : c < 128) : (enc c).length = 1 := by rw [enc_low c h]; rfl
theorem qst_len (m : Int) (t : T) (L : List T) (hp : ∀ x ∈ t :: L, 1 ≤ x.2.length) : (qst m t L).1.length + (Tok.bytes (L.drop (qst m t L).2)).length ≤ (Tok.bytes (t :: L)).length := by
  have h0 := hp t (by simp)
  cases L with
  | nil => rw [qst]; simp [bytes_cons, bytes_nil]
  | cons u M =>
    have h1 := hp u (by simp)
    rw [qst]
    split
    · simp only [List.drop_succ_cons, List.drop_zero, bytes_cons, List.length_append]; omega
    · split
      · rename_i z hz
        cases M with
        | nil => unfold hx at hz; split at hz; · cases hh : Pu.hexd u.1 with
                                                   | none => rw [hh] at hz; cases hz
                                                   | some x => rw [hh] at hz; cases hz
                 · cases hz
        | cons v N => simp only [List.drop_succ_cons, List.drop_zero, bytes_cons, List.length_append, List.length_singleton]; omega
      · simp only [List.drop_zero, bytes_cons, List.length_append]; omega
theorem dlF_len (m : Int) : ∀ (f : Nat) (L : List T), (∀ x ∈ L, 1 ≤ x.2.length) → (dlF m f L).length ≤ (Tok.bytes L).length
  | 0, _, _ => Nat.zero_le _
  | f + 1, [], _ => Nat.zero_le _
  | f + 1, t :: L, hp => by
    have h0 := hp t (by simp)
    rw [dlF, List.length_append]
    have ih := dlF_len m f (L.drop (stp m t L).2) fun x hx => hp x (List.mem_cons_of_mem _ (List.mem_of_mem_drop hx))
    have hs : (stp m t L).1.length + (Tok.bytes (L.drop (stp m t L).2)).length ≤ (Tok.bytes (t :: L)).length := by
      unfold stp
      split
      · exact qst_len m t L hp
      · split
        · rename_i h
          rw [enc_one ((AM_asc m).low _ h)]
          simp only [List.drop_zero, bytes_cons, List.length_append]; omega
        · simp only [List.drop_zero, bytes_cons, List.length_append]; omega
    omega
theorem shead_len (m : Int) (L : List T) (hp : ∀ x ∈ L, 1 ≤ x.2.length) : (shead m L).1.length + (Tok.bytes (shead m L).2).length ≤ (Tok.bytes L).length ∧ ∀ x ∈ (shead m L).2, 1 ≤ x.2.length := by
  match L, hp with
  | [], _ => exact ⟨Nat.le_refl _, fun x hx => by cases hx⟩
  | [t], hp =>
    have h0 := hp t (by simp)
    rw [shead]
    split
    · rename_i h
      rw [enc_one (L_low h)]
      exact ⟨by simp only [bytes_cons, bytes_nil, List.length_append, List.length_nil]; omega, fun x hx => by cases hx⟩
    · exact ⟨by simp, hp⟩
  | t :: u :: M, hp =>
    have h0 := hp t (by simp)
    have h1 := hp u (by simp)
    rw [shead]
    split
    · rename_i h
      rw [enc_one (L_low h)]
      exact ⟨by simp only [bytes_cons, List.length_append]; omega, fun x hx => hp x (List.mem_cons_of_mem _ hx)⟩
    · split
      · exact ⟨by simp only [bytes_cons, List.length_append]; omega, fun x hx => hp x (List.mem_cons_of_mem _ (List.mem_cons_of_mem _ hx))⟩
      · exact ⟨by simp, hp⟩
theorem bytes_rev (L : List T) : (Tok.bytes L.reverse).length = (Tok.bytes L).length := by
  unfold Tok.bytes
  rw [List.length_flatMap, List.length_flatMap, List.map_reverse, List.sum_reverse]
theorem stail_len (m : Int) (L : List T) (hp : ∀ x ∈ L, 1 ≤ x.2.length) : (stailR m L).1.length + (Tok.bytes (stailR m L).2).length ≤ (Tok.bytes L).length ∧ ∀ x ∈ (stailR m L).2, 1 ≤ x.2.length := by
  match L, hp with
  | [], _ => exact ⟨Nat.le_refl _, fun x hx => by cases hx⟩
  | [t], hp =>
    have h0 := hp t (by simp)
    rw [stailR]
    split
    · rename_i h
      rw [enc_one (R_low h)]
      exact ⟨by simp only [bytes_cons, bytes_nil, List.length_append, List.length_nil]; omega, fun x hx => by cases hx⟩
    · exact ⟨by simp, hp⟩
  | t :: u :: M, hp =>
    have h0 := hp t (by simp)
    have h1 := hp u (by simp)
    rw [stailR]
    split
    · rename_i h
      split
      · exact ⟨by simp only [bytes_cons, List.length_append]; omega, fun x hx => hp x (List.mem_cons_of_mem _ (List.mem_cons_of_mem _ hx))⟩
      · rw [enc_one (R_low h)]
        exact ⟨by simp only [bytes_cons, List.length_append]; omega, fun x hx => hp x (List.mem_cons_of_mem _ hx)⟩
    · exact ⟨by simp, hp⟩
theorem tk_pos (l : List UInt8) : ∀ x ∈ tk l, 1 ≤ x.2.length := fun x hx => by
  rcases tk_form l x hx with ⟨r, _, rfl⟩ | ⟨b, rfl⟩
  · exact enc_pos r
  · exact Nat.le_refl _
theorem nameD_len (m : Int) (l : List UInt8) : (nameD m (tk l)).length ≤ l.length := by
  obtain ⟨a1, a2⟩ := shead_len m (tk l) (tk_pos l)
  obtain ⟨b1, b2⟩ := stail_len m (shead m (tk l)).2.reverse (fun x hx => a2 x (List.mem_reverse.1 hx))
  have c1 := dlF_len m (stailR m (shead m (tk l)).2.reverse).2.reverse.length (stailR m (shead m (tk l)).2.reverse).2.reverse (fun x hx => b2 x (List.mem_reverse.1 hx))
  rw [bytes_rev] at b1 c1
  have hb := bytes_tk' l
  unfold nameD dl
  rw [List.length_append, List.length_append]
  rw [hb] at a1
  omega
/-- What is read is no longer. -/
theorem decode_size (m : Int) (s : ByteArray) (h1 : 0 < s.size) : (Dec.decode m s).size ≤ s.size := by
  have hs : s.data.toList.length = s.size := rfl
  have hd : (Dec.decode m s).data.toList.length = (Dec.decode m s).size := rfl
  have hne : s.data.toList ≠ [] := by intro e; rw [e] at hs; simp at hs; omega
  rw [← hs, ← hd]
  unfold Dec.decode
  split
  · exact Nat.le_refl _
  split
  · rename_i h; rw [h.2]; decide
  split
  · rename_i h; rw [h.2]; decide
  split
  · rename_i h; rw [h.2]; decide
  split
  · rename_i h; rw [h.2]; decide
  · rw [decodeT_tk m s hne]
    exact nameD_len m _
/-- What a name that a mask has written is in the Standard's writing; and the other way. -/
def toName (m : Int) (s : ByteArray) : ByteArray := if m = 33652738 then s else Enc.encode 33652738 (Dec.decode m s)
def fromName (m : Int) (s : ByteArray) : ByteArray := if m = 33652738 then s else Enc.encode m (Dec.decode 33652738 s)
theorem meth (v : Value) (w : World) : (method 251 39 v "Decode").run Tryd.prog w = .ok (30, v) w := by kernel_rfl
theorem ahead (v : Value) (w : World) : (nilAhead 251 39 v "Decode").run Tryd.prog w = .ok (some false) w := by kernel_rfl
theorem eql87 (m k : Int) (w : World) : (binOp .eql 87 (.iface 39 (.int .u64 m)) (.iface 39 (.int .u64 k))).run Tryd.prog w = .ok (.bool (m == k)) w := by kernel_rfl
set_option maxHeartbeats 1000000 in
set_option maxRecDepth 1000000 in
theorem toName_any (m : Int) (s : ByteArray) (w0 : World) (hg : Glob w0) (hle : s.size ≤ 400000) :
    Calls Tryd.prog 53 #[.iface 39 (.int .u64 m), .string s] w0 fun e w' => e = .returned (.string (toName m s)) ∧ Below w0.heap.size w0 w' := by
  have HG := Lib.hid hg
  clear hg
  by_cases hm : m = 33652738
  · subst hm
    have hq : ∀ W, (binOp .eql 87 (.iface 39 (.int .u64 33652738)) (.iface 39 (.int .u64 33652738))).run Tryd.prog W = .ok (.bool true) W := fun W => by rw [eql87]; rfl
    go_enter Tryd.func53, Tryd.ntmps53
    go_wp2_with fail
    go_ret
    exact ⟨by rw [toName, if_pos rfl]; rfl, Below.refl _ _⟩
  · have hq : ∀ W, (binOp .eql 87 (.iface 39 (.int .u64 m)) (.iface 39 (.int .u64 33652738))).run Tryd.prog W = .ok (.bool false) W := fun W => by rw [eql87, show (m == 33652738) = false by simpa using hm]
    have HD := Lib.hid (Dec.decode_any m s w0 HG.out.tabs HG.out.syn (by omega))
    have hm1 := fun v W => meth v W
    have ha1 := fun v W => ahead v W
    have hsz : (Dec.decode m s).size ≤ 400000 := by
      rcases Nat.eq_zero_or_pos s.size with h | h
      · have : s.data.toList = [] := List.length_eq_zero_iff.1 h
        have := Sdl.dec_empty m s this
        have : (Dec.decode m s).size = 0 := congrArg List.length this
        omega
      · have := decode_size m s h; omega
    go_enter Tryd.func53, Tryd.ntmps53
    go_wp2_with (first | (go_at_call 30; (with_reducible refine HD.out.mono ?_); rintro e w1 ⟨rfl, hb1⟩; have HB := Lib.hid hb1; clear hb1) | (go_at_call 29; (with_reducible refine (Enc.encode_any 33652738 (Dec.decode m s) _ (Glob.below HG.out HB.out).tabs hsz).mono ?_); rintro e w2 ⟨rfl, hb2⟩; have HB2 := Lib.hid hb2; clear hb2))
    go_ret
    exact ⟨by rw [toName, if_neg hm]; rfl, HB.out.trans (HB2.out.mono HB.out.size)⟩
theorem impl_to (m : Int) (s : ByteArray) (w0 : World) (hg : Glob w0) (hle : s.size ≤ 400000) :
    Calls Tryd.prog 19 #[.int .u64 m, .string s] w0 fun e w' => e = .returned (.string (toName m s)) ∧ Below w0.heap.size w0 w' := by
  have h35 : Calls Tryd.prog 35 #[.int .u64 m, .string s] w0 fun e w' => e = .returned (.string (toName m s)) ∧ Below w0.heap.size w0 w' := by
    have HN := Lib.hid (toName_any m s w0 hg hle)
    clear hg
    go_enter Tryd.func35, Tryd.ntmps35
    go_wp2_with (go_at_call 53; (with_reducible refine HN.out.mono ?_); rintro e w1 ⟨rfl, hb1⟩; have HB := Lib.hid hb1; clear hb1)
    go_ret
    exact ⟨rfl, HB.out⟩
  have HN := Lib.hid h35
  clear h35 hg
  go_enter Tryd.func19, Tryd.ntmps19
  go_wp2_with (go_at_call 35; (with_reducible refine HN.out.mono ?_); rintro e w1 ⟨rfl, hb1⟩; have HB := Lib.hid hb1; clear hb1)
  go_ret
  exact ⟨rfl, HB.out⟩
theorem methE (v : Value) (w : World) : (method 251 39 v "Encode").run Tryd.prog w = .ok (29, v) w := by kernel_rfl
theorem aheadE (v : Value) (w : World) : (nilAhead 251 39 v "Encode").run Tryd.prog w = .ok (some false) w := by kernel_rfl
theorem decode_le (m : Int) (s : ByteArray) : (Dec.decode m s).size ≤ s.size := by
  rcases Nat.eq_zero_or_pos s.size with h | h
  · have h1 : s.data.toList = [] := List.length_eq_zero_iff.1 h
    have h2 := Sdl.dec_empty m s h1
    have : (Dec.decode m s).size = 0 := congrArg List.length h2
    omega
  · exact decode_size m s h
set_option maxHeartbeats 1000000 in
set_option maxRecDepth 1000000 in
theorem fromName_any (m : Int) (s : ByteArray) (w0 : World) (hg : Glob w0) (hle : s.size ≤ 400000) :
    Calls Tryd.prog 72 #[.iface 39 (.int .u64 m), .string s] w0 fun e w' => e = .returned (.string (fromName m s)) ∧ Below w0.heap.size w0 w' := by
  have HG := Lib.hid hg
  clear hg
  by_cases hm : m = 33652738
  · subst hm
    have hq : ∀ W, (binOp .eql 87 (.iface 39 (.int .u64 33652738)) (.iface 39 (.int .u64 33652738))).run Tryd.prog W = .ok (.bool true) W := fun W => by rw [eql87]; rfl
    go_enter Tryd.func72, Tryd.ntmps72
    go_wp2_with fail
    go_ret
    exact ⟨by rw [fromName, if_pos rfl]; rfl, Below.refl _ _⟩
  · have hq : ∀ W, (binOp .eql 87 (.iface 39 (.int .u64 m)) (.iface 39 (.int .u64 33652738))).run Tryd.prog W = .ok (.bool false) W := fun W => by rw [eql87, show (m == 33652738) = false by simpa using hm]
    have hm1 := fun v W => methE v W
    have ha1 := fun v W => aheadE v W
    have hsz : (Dec.decode 33652738 s).size ≤ 400000 := Nat.le_trans (decode_le _ s) hle
    go_enter Tryd.func72, Tryd.ntmps72
    go_wp2_with fail
    go_region_with (first | (go_at_call 30; (with_reducible refine (Dec.decode_any 33652738 s _ (Glob.below HG.out (show Below w0.heap.size w0 w0.drew from ⟨rfl, rfl, rfl, Nat.le_refl _, fun _ _ => rfl⟩)).tabs (Glob.below HG.out (show Below w0.heap.size w0 w0.drew from ⟨rfl, rfl, rfl, Nat.le_refl _, fun _ _ => rfl⟩)).syn hle).mono ?_); rintro e w1 ⟨rfl, hb1⟩; have HB := Lib.hid ((show Below w0.heap.size w0 w0.drew from ⟨rfl, rfl, rfl, Nat.le_refl _, fun _ _ => rfl⟩).trans hb1); clear hb1) | (go_at_call 29; (with_reducible refine (Enc.encode_any m (Dec.decode 33652738 s) _ (Glob.below HG.out HB.out).tabs hsz).mono ?_); rintro e w2 ⟨rfl, hb2⟩; have HB2 := Lib.hid hb2; clear hb2))
    all_goals (go_wp2; go_ret; exact ⟨by rw [fromName, if_neg hm]; rfl, HB.out.trans (HB2.out.mono HB.out.size)⟩)
end Go.Proofs.YtlgoghonnnobfaaDoor.Nto
