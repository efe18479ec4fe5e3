import Derived.Test.YtfegihmnpcjdgaaRang8
import Derived.Test.YtfegihmnpcjdgaaWLast
import Derived.Deep.RegionLaw
namespace Go.Proofs.Ytfegihmnpcjdgaa.Marks
open Go.RowKit Go.Proofs.YtfegihmnpcjdgaaW.PrintWords Go.Proofs.YtfegihmnpcjdgaaW.PrintMore Go.Proofs.YtfegihmnpcjdgaaW.PrintLast Go.Proofs.Ytfegihmnpcjdgaa.Rang
set_option linter.unusedVariables false
set_option linter.unusedSimpArgs false

/-- How many places of a rising list lie ahead of a place. -/
def markAt (out : List Int) (p : Int) : Nat := (out.takeWhile (fun x => decide (x < p))).length
/-- A place put into a rising list, once. -/
def addMark (out : List Int) (p : Int) : List Int := if out[markAt out p]? = some p then out else out.take (markAt out p) ++ p :: out.drop (markAt out p)
/-- The places at which ranges begin and end. -/
def step (out : List Int) (r : Int × Int) : List Int := if r.2 < 1 then out else addMark (addMark out r.1) (wrap64 (r.1 + r.2))
def marks (l : List (Int × Int)) : List Int := l.foldl step []

theorem takeWhile_len {α : Type} (p : α → Bool) : ∀ (l : List α) (n : Nat), (∀ i (h : i < l.length), i < n → p l[i] = true) → (n = l.length ∨ ∃ h : n < l.length, p l[n] = false) → (l.takeWhile p).length = n
  | [], n, _, h2 => by
    rcases h2 with h | ⟨h, _⟩
    · simp at h; simp [h]
    · exact absurd h (Nat.not_lt_zero _)
  | a :: l, 0, _, h2 => by
    rcases h2 with h | ⟨_, h⟩
    · simp at h
    · simp at h; simp [List.takeWhile_cons, h]
  | a :: l, n + 1, h1, h2 => by
    have ha : p a = true := h1 0 (by simp) (by omega)
    rw [List.takeWhile_cons, if_pos ha, List.length_cons]
    congr 1
    refine takeWhile_len p l n (fun i h hi => h1 (i + 1) (by simp; omega) (by omega)) ?_
    rcases h2 with h | ⟨h, e⟩
    · exact .inl (by simpa using h)
    · exact .inr ⟨by simpa using h, by simpa using e⟩
theorem markAt_le (out : List Int) (p : Int) : markAt out p ≤ out.length := by
  unfold markAt; exact (List.takeWhile_prefix _).length_le
theorem addMark_len (out : List Int) (p : Int) : (addMark out p).length ≤ out.length + 1 := by
  have := markAt_le out p
  unfold addMark; split
  · omega
  · simp; omega
theorem step_len (out : List Int) (r : Int × Int) : (step out r).length ≤ out.length + 2 := by
  unfold step; split
  · omega
  · have h1 := addMark_len out r.1
    have h2 := addMark_len (addMark out r.1) (wrap64 (r.1 + r.2))
    omega
theorem marks_len : ∀ (l : List (Int × Int)) (out : List Int), (l.foldl step out).length ≤ out.length + 2 * l.length
  | [], out => by simp
  | r :: l, out => by
    have h1 := marks_len l (step out r)
    have h2 := step_len out r
    simp only [List.foldl_cons, List.length_cons]; omega

/-! ### rows of whole numbers that are read -/
abbrev ki : Kd Int := Kd.int .i64
theorem ki_C {w : World} {A : Option Addr} {n : Nat} {xs : List Int} (h : ki.C w A n xs) (i : Nat) (hi : i < xs.length) : ∃ ad, A = some ad ∧ w.cell? (ad.add i) = some (.int .i64 (xs.getD i 0)) := by
  obtain ⟨ad, c, e, _, hK, hc0⟩ := Kd.C_get h 0 (i : Int) (by omega) (by have := h.1; omega)
  have hK2 : c = [.int .i64 (xs.getD i 0)] := hK
  subst hK2
  have := hc0 0 _ rfl
  rw [Int.toNat_natCast] at this
  have e2 : i * ki.sz + 0 = i := by show i * 1 + 0 = i; omega
  rw [e2] at this
  exact ⟨ad, e, this⟩
theorem ki_mk {w : World} {ad : Addr} {n : Nat} {xs : List Int} (hn : xs.length = n) (hm : n ≤ 9223372036854775807) (h : ∀ i, i < n → w.cell? (ad.add i) = some (.int .i64 (xs.getD i 0))) : ki.C w (some ad) n xs := by
  refine ⟨hn, hm, fun _ => ⟨ad, rfl, fun j p hj => ⟨[.int .i64 p], rfl, rfl, fun i u hu => ?_⟩⟩⟩
  obtain ⟨hlt, rfl⟩ := List.getElem?_eq_some_iff.1 hj
  cases i with
  | zero =>
    simp at hu
    subst hu
    have := h j (by omega)
    rw [List.getD_eq_getElem?_getD, List.getElem?_eq_getElem hlt] at this
    have e2 : j * ki.sz + 0 = j := by show j * 1 + 0 = j; omega
    rw [e2]
    exact this
  | succ i => simp at hu
theorem ki_none {w : World} {A : Option Addr} : ki.C w A 0 [] := ⟨rfl, by omega, fun h => absurd h (Nat.lt_irrefl 0)⟩
theorem ki_grown {w w1 : World} {A : Option Addr} {n : Nat} {xs : List Int} {row : Option Nat} (h : ki.C w A n xs) (hg : w.grownBy w1 row) (hne : ∀ ad, A = some ad → some ad.block ≠ row) : ki.C w1 A n xs := by
  have hn := h.1
  rcases Nat.eq_zero_or_pos n with rfl | hpos
  · obtain rfl : xs = [] := List.eq_nil_of_length_eq_zero hn
    exact ki_none
  · obtain ⟨ad, rfl, _⟩ := ki_C h 0 (by omega)
    refine ki_mk hn h.2.1 (fun i hi => ?_)
    obtain ⟨ad2, e, hc⟩ := ki_C h i (by omega)
    injection e with e
    subst e
    refine hg.cell hc ?_
    have e : (ad.add i).block = ad.block := by unfold Addr.add; split <;> rfl
    rw [e]; exact hne _ rfl
theorem ki_alloc {w : World} {A : Option Addr} {n : Nat} {xs : List Int} (h : ki.C w A n xs) (o : Obj) : ki.C (w.alloc o) A n xs := Kd.C_alloc h o
/-- A row of one's own, as it stands in a slot. -/
structure Own (B : Nat) (v : Value) (xs : List Int) (w0 w : World) : Prop where
  r : ki.R 3 w B (fun _ => True) v xs
  b : Below B w0 w
  hB : B ≤ w.heap.size
theorem info3 : (Try.prog.info? 3).map (fun i => (i.zero, i.size, i.bytes)) = some (some (.int .i64 0), 1, 8) := by kernel_rfl
theorem cutTo (A : Option Addr) (n c j : Nat) (hj : j ≤ n) (hc : n ≤ c) (W : World) : (Instr.slice 63 (.slice A n c) none (some (.int .i64 (j : Int))) none).run Try.prog W = .ok (.slice A j c) W := by
  have hs := info3
  cases hq : Try.prog.info? 3 with
  | none => simp [hq] at hs
  | some i =>
    have h := cut_to (P := Try.prog) 63 3 .i64 Try.underlying63 hq A n c (j : Int) (by omega) (by omega) hc W
    rw [h]; simp
theorem cutFrom (A : Option Addr) (n c j : Nat) (hj : j ≤ n) (W : World) : (Instr.slice 63 (.slice A n c) (some (.int .i64 (j : Int))) none none).run Try.prog W = .ok (.slice (if c = j then A else A.map (·.add (j * 1))) (n - j) (c - j)) W := by
  have hs := info3
  cases hq : Try.prog.info? 3 with
  | none => simp [hq] at hs
  | some i =>
    have hi : i.size = 1 := by
      rw [hq] at hs; simp at hs; exact hs.2.1
    have h := cut_from (P := Try.prog) 63 3 .i64 Try.underlying63 hq 1 hi A n c (j : Int) (by omega) (by omega) W
    rw [h]; simp

set_option maxHeartbeats 16000000 in
set_option maxRecDepth 100000 in
theorem marks_any (A : Option Addr) (c : Nat) (l : List (Int × Int)) (w : World) (hn : l.length ≤ 100000) (hr : kp.C w A l.length l) (hc : l.length ≤ c) :
    Calls Try.prog 42 #[.slice A l.length c] w fun e w' => ∃ v, e = .returned v ∧ ki.R 3 w' w.heap.size (fun _ => True) v (marks l) ∧ Below w.heap.size w w' := by
  have HR := Lib.hid hr
  clear hr
  have ix0 : ∀ (x y : Value) (w : World), (Instr.index 78 (.agg #[x, y]) (.int .i64 0)).run Try.prog w = .ok x w := fun _ _ _ => by kernel_rfl
  have ix1 : ∀ (x y : Value) (w : World), (Instr.index 78 (.agg #[x, y]) (.int .i64 1)).run Try.prog w = .ok y w := fun _ _ _ => by kernel_rfl
  go_enter Try.func42, Try.ntmps42
  go_wp2
  go_loopw [3, 12] (fun v3 v12 wr => ∃ i : Nat, i ≤ l.length ∧ v12 = .int .i64 i ∧ Own w.heap.size v3 (marks (l.take i)) w wr) (fun _ v12 _ => l.length - (intOf v12).toNat)
  case atStart => exact ⟨0, Nat.zero_le _, rfl, Kd.R_nil _ _ _ _ _, Below.refl _ _, Nat.le_refl _⟩
  case round =>
    obtain ⟨i, hi, rfl, hown⟩ := hrel
    have HO := Lib.hid hown
    clear hown
    by_cases hlt : i < l.length
    · have b0 : decide ((i : Int) < (l.length : Int)) = true := decide_eq_true (by omega)
      have b1 : (i : Int) < (l.length : Int) := by omega
      obtain ⟨ad, rfl, c0, c1⟩ := kp_C (Kd.C_below HR.out HO.out.b) i hlt
      have htk : marks (l.take (i + 1)) = step (marks (l.take i)) (el l i) := by
        unfold marks; rw [List.take_succ_eq_append_getElem hlt, List.foldl_append, el_get]; rfl
      have HTK := Lib.hid htk
      clear htk
      have hml := marks_len (l.take i) []
      have hml2 : (marks (l.take i)).length ≤ 200000 := by unfold marks; simp at hml; omega
      have HO1 : Hid (Own w.heap.size u3 (marks (l.take i)) w (wr.alloc (.cells #[.int .i64 (el l i).1, .int .i64 (el l i).2] 28))) := Lib.hid ⟨Kd.R_alloc HO.out.r _, HO.out.b.alloc HO.out.hB _, by have := HO.out.hB; simp; omega⟩
      generalize marks (l.take i) = out at *
      generalize hq : el l i = q at *
      obtain ⟨q1, q2⟩ := q
      by_cases h1 : q2 < 1
      · have b2 : decide (q2 < 1) = true := decide_eq_true h1
        go_wp2
        go_roundw
        case rel => exact ⟨i + 1, by omega, by go_num, by rw [HTK.out]; unfold step; rw [if_pos h1]; exact HO1.out⟩
        case measure => simp [intOf]; omega
      · have b2 : decide (q2 < 1) = false := decide_eq_false h1
        go_wp2
        have hst : step out (q1, q2) = addMark (addMark out q1) (wrap64 (q1 + q2)) := by unfold step; rw [if_neg (by simp only; omega)]
        rw [hst] at HTK
        clear hst h1 b2 HO c0 c1 b0 ix0 ix1 hml
        generalize hE : wrap64 (q1 + q2) = E at HTK ⊢
        clear hE
        obtain ⟨wo, hwo⟩ : ∃ wo : World, wo = wr.alloc (.cells #[.int .i64 q1, .int .i64 q2] 28) := ⟨_, rfl⟩
        rw [← hwo] at HO1 ⊢
        clear hwo
        go_loopw [3, 27] (fun v3 v27 wr2 => ∃ (j : Nat) (xs : List Int), j ≤ 2 ∧ v27 = .int .i64 j ∧ xs = (if j = 0 then out else if j = 1 then addMark out q1 else addMark (addMark out q1) E) ∧ Own w.heap.size v3 xs w wr2) (fun _ v27 _ => 2 - (intOf v27).toNat)
        case atStart => exact ⟨0, out, by omega, rfl, rfl, HO1.out⟩
        case round =>
          clear HO1
          obtain ⟨j, xs, hj, rfl, hxs, hown⟩ := hrel
          have HO := Lib.hid hown
          clear hown
          by_cases hj2 : j < 2
          · obtain ⟨p, hix, hnx⟩ : ∃ p : Int, (∀ w : World, (Instr.index 78 (.agg #[.int .i64 q1, .int .i64 E]) (.int .i64 (j : Int))).run Try.prog w = .ok (.int .i64 p) w) ∧ addMark xs p = (if j + 1 = 0 then out else if j + 1 = 1 then addMark out q1 else addMark (addMark out q1) E) := by
              have h01 : j = 0 ∨ j = 1 := by omega
              rcases h01 with rfl | rfl
              · exact ⟨q1, fun _ => by kernel_rfl, by rw [hxs]; rfl⟩
              · exact ⟨E, fun _ => by kernel_rfl, by rw [hxs]; rfl⟩
            have hxl : xs.length ≤ 300000 := by
              have m1 := addMark_len out q1
              have m2 := addMark_len (addMark out q1) E
              rw [hxs]; split
              · omega
              · split <;> omega
            have HNX := Lib.hid hnx
            clear hnx hxs
            have b3 : decide ((j : Int) < 2) = true := decide_eq_true (by omega)
            obtain ⟨A3, c3, eA⟩ := Kd.R_slice HO.out.r
            subst eA
            obtain ⟨_, hc3, hC3⟩ := Kd.R_reads' HO.out.r
            have HC3 := Lib.hid hC3
            clear hC3
            go_wp2
            generalize wr = wc at HO HC3 ⊢
            go_loopw [8] (fun v8 w3 => ∃ m : Nat, m ≤ xs.length ∧ v8 = .int .i64 m ∧ (∀ t, t < m → xs.getD t 0 < p) ∧ wc = w3) (fun v8 _ => xs.length - (intOf v8).toNat)
            case atStart => exact ⟨0, Nat.zero_le _, rfl, fun t ht => absurd ht (Nat.not_lt_zero _), rfl⟩
            case round =>
              obtain ⟨m, hm, rfl, hall, rfl⟩ := hrel
              have HA := Lib.hid hall
              clear hall
              by_cases hcont : m < xs.length ∧ xs.getD m 0 < p
              · obtain ⟨hm2, hlt2⟩ := hcont
                have e0 : decide (m < xs.length) = true := decide_eq_true hm2
                have e1 : decide ((m : Int) < (xs.length : Int)) = true := decide_eq_true (by omega)
                have e2 : (m : Int) < (xs.length : Int) := by omega
                obtain ⟨ad3, hA3, hcell⟩ := ki_C HC3.out m hm2
                subst hA3
                have hnext : ∀ t, t < m + 1 → xs.getD t 0 < p := by
                  intro t ht
                  rcases Nat.lt_or_eq_of_le (Nat.le_of_lt_succ ht) with h | rfl
                  · exact HA.out t h
                  · exact hlt2
                have HN := Lib.hid hnext
                clear hnext
                generalize xs.getD m 0 = y at *
                have e3 : decide (y < p) = true := decide_eq_true hlt2
                go_wp2
                go_roundw
                case rel => exact ⟨m + 1, by omega, by go_num, HN.out, by first | rfl | trivial⟩
                case measure => simp [intOf]; omega
              · have hat : markAt xs p = m := by
                  unfold markAt
                  refine takeWhile_len _ xs m (fun t ht1 ht2 => ?_) ?_
                  · have := HA.out t ht2
                    rw [List.getD_eq_getElem?_getD, List.getElem?_eq_getElem ht1] at this
                    simpa using this
                  · rcases Nat.lt_or_eq_of_le hm with h | h
                    · right
                      refine ⟨h, ?_⟩
                      have : ¬ xs.getD m 0 < p := fun hx => hcont ⟨h, hx⟩
                      rw [List.getD_eq_getElem?_getD, List.getElem?_eq_getElem h] at this
                      simpa using this
                    · exact .inl h
                have HAT := Lib.hid hat
                have HCT := Lib.hid hcont
                clear hat hcont HA
                by_cases hm2 : m < xs.length
                · have e0 : decide (m < xs.length) = true := decide_eq_true hm2
                  have e1 : decide ((m : Int) < (xs.length : Int)) = true := decide_eq_true (by omega)
                  have e2 : (m : Int) < (xs.length : Int) := by omega
                  obtain ⟨ad3, hA3, hcell⟩ := ki_C HC3.out m hm2
                  subst hA3
                  have hge : ¬ xs.getD m 0 < p := fun h => HCT.out ⟨hm2, h⟩
                  obtain ⟨y, hy⟩ : ∃ y, y = xs.getD m 0 := ⟨_, rfl⟩
                  rw [← hy] at hcell hge
                  have HY := Lib.hid hy
                  clear hy
                  have e3 : decide (y < p) = false := decide_eq_false hge
                  by_cases heq : y = p
                  · have e4 : (y == p) = true := by simpa using heq
                    have hsame : addMark xs p = xs := by
                      unfold addMark
                      rw [HAT.out, if_pos]
                      rw [List.getElem?_eq_getElem hm2]
                      have h5 := HY.out
                      rw [List.getD_eq_getElem?_getD, List.getElem?_eq_getElem hm2] at h5
                      simp only [Option.getD_some] at h5
                      rw [← h5, heq]
                    rw [hsame] at HNX
                    clear heq hsame hge
                    go_wp2
                    go_roundw
                    case rel => exact ⟨j + 1, xs, by omega, by go_num, HNX.out, HO.out⟩
                    case measure => simp [intOf]; omega
                  · have e4 : (y == p) = false := by simpa using heq
                    have hnew : addMark xs p = xs.take m ++ p :: xs.drop m := by
                      unfold addMark
                      rw [HAT.out, if_neg]
                      rw [List.getElem?_eq_getElem hm2]
                      have h5 := HY.out
                      rw [List.getD_eq_getElem?_getD, List.getElem?_eq_getElem hm2] at h5
                      simp only [Option.getD_some] at h5
                      rw [← h5]
                      simpa using heq
                    rw [hnew] at HNX
                    clear heq hnew hge
                    have s1 := fun W => cutTo (some ad3) xs.length c3 m hm hc3 W
                    have s2 := fun W => cutFrom (some ad3) xs.length c3 m hm W
                    generalize hoff : (if c3 = m then (some ad3) else Option.map (fun x => x.add (m * 1)) (some ad3)) = A4 at s2
                    have HOFF := Lib.hid hoff
                    clear hoff
                    have hB0 := HO.out.hB
                    go_upto_region 14 with (first
                      | ((with_reducible refine gate_dst (N := 56) rfl ?_); go_loud (refine Kd.R_lit ki (w0 := wc) wc.heap.size 3 ?hg (N := 56) ?hd (xs := ([] : List Int)) (inner := []) (ok := fun _ => True) (okp := fun _ => True) ?hr ?hp (fun _ hk => hk) trivial (Below.refl _ _) (Nat.le_refl _) (by simp) ?_; (case hd => rfl); (case hg => rfl); (case hr => first | (go_simp; done) | (go_simp; rfl)); (case hp => exact (Reps.none _ _)); intro v56 w56 ho56 hb56 hg56 hn56; have HO56 := Lib.hid ho56; have HB56 := Lib.hid hb56; clear ho56 hb56 hg56 hn56))
                      | ((with_reducible refine gate_builtin (b := .append) (xs := #[.tmp 56, .tmp 59]) rfl ?_); at_builtin; refine Kd.R_append_rows ki (w0 := wc) wc.heap.size rfl (.tmp 56) (.tmp 59) 63 3 (.int .i64 0) 8 rfl Try.underlying63 info3 rfl (by decide) (by omega) v56 [] (xs.take m) (some ad3) m c3 (fun _ => True) (fun _ => False) rfl rfl HO56.out (Rr := ki.K w56) (by have h := Kd.C_take (Kd.C_below HC3.out HB56.out) hm; rw [List.length_take, Nat.min_eq_left hm] at h; exact h) (fun x cs h => h) (fun _ hk => hk.elim) (fun _ _ => trivial) HB56.out HB56.out.size (by simp; omega) ?_; intro v60 w60 ho60 hb60 hg60 hn60; have HO60 := Lib.hid ho60; have HB60 := Lib.hid hb60; clear ho60 hb60 hg60 hn60))
                    have hml60 : (xs.take m).length ≤ 300000 := by simp; omega
                    go_region_law (first
                      | (refine Kd.R_append_step ki (w0 := wc) (W := w60.drew) wc.heap.size (by rfl) (.tmp 61) (.tmp 63) 63 3 (.int .i64 0) 8 rfl Try.underlying63 info3 rfl (by decide) (by omega) v60 ([] ++ xs.take m) p [.int .i64 p] (fun _ => True) (fun _ => False) (by rfl) (by rfl) rfl (fun _ hk => hk.elim) (fun _ _ => trivial) (Kd.R_drew HO60.out) HB60.out.drew HB60.out.size (by simp; omega) ?_; intro v64 w64 ho64 hb64 hg64 hn64; have HO64 := Lib.hid ho64; have HB64 := Lib.hid hb64; clear ho64 hb64 hg64 hn64)
                      | (refine Kd.R_append_rows_step ki (w0 := wc) wc.heap.size (by rfl) (.tmp 64) (.tmp 67) 63 3 (.int .i64 0) 8 rfl Try.underlying63 info3 rfl (by decide) (by omega) v64 ([] ++ xs.take m ++ [p]) (xs.drop m) A4 (xs.length - m) (c3 - m) (fun _ => True) (fun _ => False) (by rfl) (by rfl) HO64.out (Rr := ki.K w64) (by have h := Kd.C_drop (c := c3) (Kd.C_below HC3.out HB64.out) hm hc3; rw [List.length_drop] at h; rw [← HOFF.out]; exact h) (fun x cs h => h) (fun _ hk => hk.elim) (fun _ _ => trivial) HB64.out HB64.out.size (by simp; omega) ?_; intro v68 w68 ho68 hb68 hg68 hn68; have HO68 := Lib.hid ho68; have HB68 := Lib.hid hb68; clear ho68 hb68 hg68 hn68))
                    all_goals go_wp2
                    all_goals (go_roundw; (case rel => exact ⟨j + 1, _, by omega, by go_num, HNX.out, Kd.R_lower (by simpa using HO68.out) hB0, HO.out.b.trans (HB68.out.mono hB0), Nat.le_trans hB0 HB68.out.size⟩); (case measure => simp [intOf]; omega))
                · have e0 : decide (m < xs.length) = false := decide_eq_false hm2
                  have e1 : decide ((m : Int) < (xs.length : Int)) = false := decide_eq_false (by omega)
                  have hnew : addMark xs p = xs.take m ++ p :: xs.drop m := by
                    unfold addMark
                    rw [HAT.out, if_neg]
                    rw [List.getElem?_eq_none (by omega)]
                    simp
                  rw [hnew] at HNX
                  clear hnew
                  have s1 := fun W => cutTo A3 xs.length c3 m hm hc3 W
                  have s2 := fun W => cutFrom A3 xs.length c3 m hm W
                  generalize hoff : (if c3 = m then A3 else Option.map (fun x => x.add (m * 1)) A3) = A4 at s2
                  have HOFF := Lib.hid hoff
                  clear hoff
                  have hB0 := HO.out.hB
                  go_upto_region 14 with (first
                    | ((with_reducible refine gate_dst (N := 56) rfl ?_); go_loud (refine Kd.R_lit ki (w0 := wc) wc.heap.size 3 ?hg (N := 56) ?hd (xs := ([] : List Int)) (inner := []) (ok := fun _ => True) (okp := fun _ => True) ?hr ?hp (fun _ hk => hk) trivial (Below.refl _ _) (Nat.le_refl _) (by simp) ?_; (case hd => rfl); (case hg => rfl); (case hr => first | (go_simp; done) | (go_simp; rfl)); (case hp => exact (Reps.none _ _)); intro v56 w56 ho56 hb56 hg56 hn56; have HO56 := Lib.hid ho56; have HB56 := Lib.hid hb56; clear ho56 hb56 hg56 hn56))
                    | ((with_reducible refine gate_builtin (b := .append) (xs := #[.tmp 56, .tmp 59]) rfl ?_); at_builtin; refine Kd.R_append_rows ki (w0 := wc) wc.heap.size rfl (.tmp 56) (.tmp 59) 63 3 (.int .i64 0) 8 rfl Try.underlying63 info3 rfl (by decide) (by omega) v56 [] (xs.take m) A3 m c3 (fun _ => True) (fun _ => False) rfl rfl HO56.out (Rr := ki.K w56) (by have h := Kd.C_take (Kd.C_below HC3.out HB56.out) hm; rw [List.length_take, Nat.min_eq_left hm] at h; exact h) (fun x cs h => h) (fun _ hk => hk.elim) (fun _ _ => trivial) HB56.out HB56.out.size (by simp; omega) ?_; intro v60 w60 ho60 hb60 hg60 hn60; have HO60 := Lib.hid ho60; have HB60 := Lib.hid hb60; clear ho60 hb60 hg60 hn60))
                  have hml60 : (xs.take m).length ≤ 300000 := by simp; omega
                  go_region_law (first
                    | (refine Kd.R_append_step ki (w0 := wc) (W := w60.drew) wc.heap.size (by rfl) (.tmp 61) (.tmp 63) 63 3 (.int .i64 0) 8 rfl Try.underlying63 info3 rfl (by decide) (by omega) v60 ([] ++ xs.take m) p [.int .i64 p] (fun _ => True) (fun _ => False) (by rfl) (by rfl) rfl (fun _ hk => hk.elim) (fun _ _ => trivial) (Kd.R_drew HO60.out) HB60.out.drew HB60.out.size (by simp; omega) ?_; intro v64 w64 ho64 hb64 hg64 hn64; have HO64 := Lib.hid ho64; have HB64 := Lib.hid hb64; clear ho64 hb64 hg64 hn64)
                    | (refine Kd.R_append_rows_step ki (w0 := wc) wc.heap.size (by rfl) (.tmp 64) (.tmp 67) 63 3 (.int .i64 0) 8 rfl Try.underlying63 info3 rfl (by decide) (by omega) v64 ([] ++ xs.take m ++ [p]) (xs.drop m) A4 (xs.length - m) (c3 - m) (fun _ => True) (fun _ => False) (by rfl) (by rfl) HO64.out (Rr := ki.K w64) (by have h := Kd.C_drop (c := c3) (Kd.C_below HC3.out HB64.out) hm hc3; rw [List.length_drop] at h; rw [← HOFF.out]; exact h) (fun x cs h => h) (fun _ hk => hk.elim) (fun _ _ => trivial) HB64.out HB64.out.size (by simp; omega) ?_; intro v68 w68 ho68 hb68 hg68 hn68; have HO68 := Lib.hid ho68; have HB68 := Lib.hid hb68; clear ho68 hb68 hg68 hn68))
                  all_goals go_wp2
                  all_goals (go_roundw; (case rel => exact ⟨j + 1, _, by omega, by go_num, HNX.out, Kd.R_lower (by simpa using HO68.out) hB0, HO.out.b.trans (HB68.out.mono hB0), Nat.le_trans hB0 HB68.out.size⟩); (case measure => simp [intOf]; omega))
          · have b3 : decide ((j : Int) < 2) = false := decide_eq_false (by omega)
            have hj3 : j = 2 := by omega
            subst hj3
            have hxs2 : xs = (marks (l.take (i + 1))) := by rw [hxs, HTK.out]; rfl
            have HX := Lib.hid hxs2
            clear hxs hxs2
            go_wp2
            go_roundw
            case rel => exact ⟨i + 1, by omega, by go_num, HX.out ▸ HO.out⟩
            case measure => simp [intOf]; omega
    · have b0 : decide ((i : Int) < (l.length : Int)) = false := decide_eq_false (by omega)
      go_wp2
      go_ret
      have e : l.take i = l := List.take_of_length_le (by omega)
      have h := HO.out
      rw [e] at h
      exact ⟨_, rfl, h.r, h.b⟩
end Go.Proofs.Ytfegihmnpcjdgaa.Marks
