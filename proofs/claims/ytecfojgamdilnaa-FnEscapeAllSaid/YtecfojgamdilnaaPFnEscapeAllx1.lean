-- Written by a program of this session's (over the kit's print), with contracts proved by hand among what it calls.
import Derived.Test.YtecfojgamdilnaaPFnEscapeAllx0
namespace Go.Proofs.Ytecfojgamdilnaa.PFnEscapeAll
open Go.RowKit Go.Proofs.YtecfojgamdilnaaW.PrintWords Go.Proofs.YtecfojgamdilnaaW.PrintLast Go.Proofs.YtecfojgamdilnaaW.PrintMore
attribute [local go_sem] max2_int min2_int max_two min_two max_three min_three max_four min_four   -- for this text's walks alone
set_option linter.unusedVariables false
set_option linter.unusedSimpArgs false

/-! ### strings.Builder, of the call's own (copyCheck and WriteByte as this translation has them; after the shelf's proofs) -/
theorem bld_size : (Try.prog.info? 44).map (·.size) = some 2 := by kernel_rfl
theorem bld_lies : liesAt Try.prog Try.prog.depth 44 (2 / Try.prog.cellsOf 44) 0 44 1 = true := by kernel_rfl
theorem bld_byte : (Try.prog.info? 5).map (fun i => (i.zero, i.size, i.bytes)) = some (some (.int .u8 0), 1, 1) := by kernel_rfl
/-- A builder in block b, from B on, that holds the bytes l. -/
abbrev Bld (B b : Nat) (l : List Value) (w : World) : Prop := Lib.IsBuilder 44 5 B b l w
abbrev BldU (B b : Nat) (l : List Value) (w : World) : Prop := Lib.BuilderAt 44 5 B b (.pointer (some ⟨b, 0, none⟩)) l w

set_option maxHeartbeats 1000000 in
set_option maxRecDepth 100000 in
theorem bld_check_used (b : Nat) (w : World) (h0 : w.cell? ⟨b, 0, none⟩ = some (.pointer (some ⟨b, 0, none⟩))) :
    Calls Try.prog 41 #[.pointer (some ⟨b, 0, none⟩)] w fun e w' => e = .returned (.tuple #[]) ∧ w' = w := by
  obtain ⟨j, hj, _⟩ := Option.map_eq_some_iff.1 bld_size
  go_enter Try.func41, Try.ntmps41
  go_wp2
  rw [Lib.run_neq_ptr_same w _ Try.underlying42 hj]
  go_wp2
  go_end0
  exact ⟨rfl, rfl⟩

set_option maxHeartbeats 1000000 in
set_option maxRecDepth 100000 in
theorem bld_check_fresh (b : Nat) (w : World) (h0 : w.cell? ⟨b, 0, none⟩ = some (.pointer none)) (hsh : w.shape? b = some (44, 2)) (hfz : w.frozen? ⟨b, 0, none⟩ = false) :
    Calls Try.prog 41 #[.pointer (some ⟨b, 0, none⟩)] w fun e w' => e = .returned (.tuple #[]) ∧ w' = w.setCell ⟨b, 0, none⟩ (.pointer (some ⟨b, 0, none⟩)) := by
  obtain ⟨j, hj, hjs⟩ := Option.map_eq_some_iff.1 bld_size
  go_enter Try.func41, Try.ntmps41
  go_wp2
  rw [Lib.run_to_unsafe w ⟨b, 0, none⟩ Try.underlying42 Try.underlying56 hj (by rw [hjs]; decide) hsh (Nat.zero_lt_succ 1)]
  simp only [Result.andThen]
  rw [Oper.upon_value]
  go_wp2
  rw [run_callFunc_extern Try.func45 (by kernel_rfl) (by kernel_rfl) (by kernel_rfl) (e := Extern.AbiNoEscape.same) (by kernel_rfl)]
  rw [Lib.run_noEscape]
  simp only [Result.andThen]
  rw [Oper.upon_value]
  go_wp2
  rw [Lib.run_from_unsafe w ⟨b, 0, none⟩ Try.underlying56 Try.underlying42 hj hsh bld_lies]
  simp only [Result.andThen]
  rw [Oper.upon_value]
  go_wp2
  go_end0
  exact ⟨rfl, rfl⟩

theorem bld_check (B b : Nat) (bs : List Value) (w : World) (h : Lib.IsBuilder 44 5 B b bs w) :
    Calls Try.prog 41 #[.pointer (some ⟨b, 0, none⟩)] w fun e w' => e = .returned (.tuple #[]) ∧ (BldU B b bs w' ∧ Below B w w') := by
  rcases h with h | h
  · refine (bld_check_fresh b w h.cell0 h.shape h.frozen0).mono ?_
    rintro e w' ⟨rfl, rfl⟩
    exact ⟨rfl, h.used _, (Below.refl B w).setCell (p := ⟨b, 0, none⟩) h.1 _⟩
  · refine (bld_check_used b w h.cell0).mono ?_
    rintro e w' ⟨rfl, rfl⟩
    exact ⟨rfl, h, Below.refl B _⟩

set_option maxHeartbeats 2000000 in
set_option maxRecDepth 100000 in
theorem bld_byte_write (B b : Nat) (bs : List Value) (c : Int) (w : World) (h : Lib.IsBuilder 44 5 B b bs w) (hlen : bs.length + 1 ≤ 140737488355328) (hBw : B ≤ w.heap.size) :
    Calls Try.prog 35 #[.pointer (some ⟨b, 0, none⟩), .int .u8 c] w fun e w' => e = .returned .nilIface ∧ (BldU B b (bs ++ [.int .u8 c]) w' ∧ Below B w w') := by
  obtain ⟨i0, hi, hz0, hz1, hz2⟩ := info_parts bld_byte
  go_enter Try.func35, Try.ntmps35
  go_wp2_with (go_at_call 41; refine (bld_check B b bs _ h).mono ?_)
  rintro e w1 ⟨rfl, h1, hb1⟩
  obtain ⟨hB, v, hbk, hown, hne⟩ := h1
  have c0 : w1.cell? ⟨b, 0, none⟩ = some (.pointer (some ⟨b, 0, none⟩)) := by rw [Lib.cell_of_heap hbk]; rfl
  have c1 : w1.cell? ⟨b, 1, none⟩ = some v := by rw [Lib.cell_of_heap hbk]; rfl
  go_wp2_with (at_builtin; refine wpList_append_own _ rfl _ _ 30 rfl B 5 i0 (.int .u8 0) 1 1 Try.underlying30 hi hz0 hz1 hz2 rfl (by decide) _ _ _ rfl (hown.alloc _) ⟨w1.heap.size, 0, none⟩ 1 1 [.int .u8 c] rfl rfl ?c1 ?c2 ?c3 ?c4 ?c5 ?_)
  case c1 =>
    intro j u hj
    match j, hj with
    | 0, hj => simp at hj; subst hj; simp [Addr.add]
  case c2 => intro u hu; simp at hu; subst hu; rfl
  case c3 => unfold maxLen; omega
  case c4 => omega
  case c5 => have := hb1.size; simp; omega
  intro v' w2 hown' hgrow _
  have hlt : b < w1.heap.size := by
    rcases Nat.lt_or_ge b w1.heap.size with h' | h'
    · exact h'
    · simp [Array.getElem?_eq_none h'] at hbk
  have hb2 : w2.heap[b]? = some (.cells #[.pointer (some ⟨b, 0, none⟩), v] 44 (0, 0)) := by
    rw [hgrow.block b (by simp; omega) (fun e => hne e.symm), Lib.alloc_old w1 _ b hlt]
    exact hbk
  have d0 : w2.cell? ⟨b, 0, none⟩ = some (.pointer (some ⟨b, 0, none⟩)) := by rw [Lib.cell_of_heap hb2]; rfl
  have d1 : w2.cell? ⟨b, 1, none⟩ = some v := by rw [Lib.cell_of_heap hb2]; rfl
  have f1 : w2.frozen? ⟨b, 1, none⟩ = false := Lib.frozen_of_heap hb2 1
  obtain ⟨g, cap, rfl⟩ : ∃ g cap, v' = .slice (some ⟨g, 0, none⟩) (bs.length + 1) cap := by
    rcases hown'.2 with ⟨_, h0⟩ | ⟨g, cap, cur, hv, _⟩
    · omega
    · exact ⟨g, cap, hv⟩
  go_wp2
  go_ret
  refine ⟨rfl, ?_, ?_⟩
  · exact Lib.BuilderAt.put (T := 44) (e := 5) hB hb2 (bs' := bs ++ [.int .u8 c]) (by simpa using hown') (by decide)
  · exact ((hb1.alloc (by have := hb1.size; omega) _).grown hgrow (by have := hb1.size; simp; omega) (fun k hk => (hown.lt k hk).1)).setCell (p := ⟨b, 1, none⟩) hB _

/-- WriteByte, of a builder that holds bytes. -/
theorem bld_write (B b : Nat) (l : List UInt8) (c : UInt8) (n : Int) (hn : (c.toNat : Int) = n) (w : World) (h : Bld B b (Lib.byteCells l) w) (hlen : l.length + 1 ≤ 140737488355328) (hBw : B ≤ w.heap.size) :
    Calls Try.prog 35 #[.pointer (some ⟨b, 0, none⟩), .int .u8 n] w fun e w' => e = .returned .nilIface ∧ Bld B b (Lib.byteCells (l ++ [c])) w' ∧ Below B w w' := by
  subst hn
  refine (bld_byte_write B b (Lib.byteCells l) (c.toNat : Int) w h (by simpa [Lib.byteCells] using hlen) hBw).mono ?_
  rintro e w' ⟨rfl, h1, h2⟩
  refine ⟨rfl, .inr ?_, h2⟩
  have e1 : Lib.byteCells (l ++ [c]) = Lib.byteCells l ++ [.int .u8 (c.toNat : Int)] := by simp [Lib.byteCells]
  rw [e1]; exact h1

/-! ### rest_URLPathEscapeAll: function 29 -/
/-- Is a byte written as it is? -/
def rest_URLPathEscapeAll.plain (c : Int) : Bool := decide ((65 ≤ c ∧ c ≤ 90) ∨ (97 ≤ c ∧ c ≤ 122) ∨ (48 ≤ c ∧ c ≤ 57) ∨ c = 47 ∨ c = 45 ∨ c = 46 ∨ c = 95 ∨ c = 126)
/-- A hexadecimal digit, with a capital letter. -/
def rest_URLPathEscapeAll.hex (n : Nat) : UInt8 := if n < 10 then UInt8.ofNat (48 + n) else UInt8.ofNat (55 + n)
def rest_URLPathEscapeAll.one (c : UInt8) : List UInt8 := if rest_URLPathEscapeAll.plain c.toNat = true then [c] else [37, rest_URLPathEscapeAll.hex (c.toNat / 16), rest_URLPathEscapeAll.hex (c.toNat % 16)]
def rest_URLPathEscapeAll.esc (l : List UInt8) : List UInt8 := l.flatMap rest_URLPathEscapeAll.one
def rest_URLPathEscapeAll.f (a0 : ByteArray) : Option ByteArray := if a0.size ≤ 2147483647 then some ⟨(rest_URLPathEscapeAll.esc a0.data.toList).toArray⟩ else none

theorem rest_URLPathEscapeAll.esc_len (l : List UInt8) : (rest_URLPathEscapeAll.esc l).length ≤ 3 * l.length := by
  induction l with
  | nil => simp [rest_URLPathEscapeAll.esc]
  | cons c l ih =>
    simp only [rest_URLPathEscapeAll.esc, List.flatMap_cons, List.length_append, List.length_cons] at ih ⊢
    have : (rest_URLPathEscapeAll.one c).length ≤ 3 := by unfold rest_URLPathEscapeAll.one; split <;> simp
    omega
theorem rest_URLPathEscapeAll.esc_snoc (l : List UInt8) (c : UInt8) : rest_URLPathEscapeAll.esc (l ++ [c]) = rest_URLPathEscapeAll.esc l ++ rest_URLPathEscapeAll.one c := by simp [rest_URLPathEscapeAll.esc]
theorem rest_URLPathEscapeAll.take_snoc (s : ByteArray) (k : Nat) (h : k < s.size) : s.data.toList.take (k + 1) = s.data.toList.take k ++ [s[k]'h] := by
  rw [List.take_succ_eq_append_getElem (by simpa using h)]; rfl

def rest_URLPathEscapeAll.digits : ByteArray := ⟨#[48, 49, 50, 51, 52, 53, 54, 55, 56, 57, 65, 66, 67, 68, 69, 70]⟩
theorem rest_URLPathEscapeAll.hex_is : ∀ n : Fin 16, (rest_URLPathEscapeAll.hex n.val) = (rest_URLPathEscapeAll.digits[n.val]'(by exact n.isLt)) := by decide
theorem rest_URLPathEscapeAll.hex_at (n : Nat) (h : n < (⟨#[48, 49, 50, 51, 52, 53, 54, 55, 56, 57, 65, 66, 67, 68, 69, 70]⟩ : ByteArray).size) : ((rest_URLPathEscapeAll.hex n).toNat : Int) = (((⟨#[48, 49, 50, 51, 52, 53, 54, 55, 56, 57, 65, 66, 67, 68, 69, 70]⟩ : ByteArray)[n]'h).toNat : Int) := by
  rw [rest_URLPathEscapeAll.hex_is ⟨n, h⟩]; rfl

set_option maxHeartbeats 4000000 in
set_option maxRecDepth 100000 in
theorem rest_URLPathEscapeAll.calls (a0 : ByteArray) (r : ByteArray) (w : World) (h : rest_URLPathEscapeAll.f a0 = some r) :
    Calls Try.prog 29 #[.string a0] w fun e w' => e = .returned (.string r) ∧ Below w.heap.size w w' := by
  have hz : a0.size ≤ 2147483647 := by
    unfold rest_URLPathEscapeAll.f at h; split at h
    · assumption
    · cases h
  have hr : (⟨(rest_URLPathEscapeAll.esc a0.data.toList).toArray⟩ : ByteArray) = r := by unfold rest_URLPathEscapeAll.f at h; rw [if_pos hz] at h; exact Option.some.inj h
  have HR := Lib.hid hr; clear hr h
  go_enter Try.func29, Try.ntmps29
  have hg := Ytecfojgamdilnaa.Shelf.Try.Builder_Grow_fresh w.heap.size w.heap.size (a0.size * 3) (w.alloc (.cells #[.pointer none, .slice none 0 0] 44)) (Nat.le_refl _) (heap_alloc_new w _) (by simp) (by omega)
  rw [show ((a0.size * 3 : Nat) : Int) = (a0.size : Int) * 3 from by omega] at hg
  have HG := Lib.hid hg; clear hg
  go_wp2_with (go_at_call 34; (with_reducible refine (HG.out).mono ?_); rintro e w1 ⟨rfl, h1, hb1⟩)
  have hsz := hb1.size
  simp at hsz
  go_loopw [12] (fun u wr => ∃ k : Nat, k ≤ a0.size ∧ u = .int .i64 k ∧ Bld w.heap.size w.heap.size (Lib.byteCells (rest_URLPathEscapeAll.esc (a0.data.toList.take k))) wr ∧ Below w.heap.size w wr) (fun u _ => a0.size - (intOf u).toNat)
  case atStart => exact ⟨0, by omega, rfl, .inr h1, ((Below.refl _ _).alloc (Nat.le_refl _) _).trans (hb1.mono (by simp))⟩
  case round =>
    obtain ⟨k, hk, rfl, hbld, hbel⟩ := hrel
    have HB := Lib.hid hbld; clear hbld
    have HL := Lib.hid hbel
    have hwz := hbel.size; clear hbel
    by_cases hlt : k < a0.size
    · have hts := rest_URLPathEscapeAll.take_snoc a0 k hlt
      have hlen := rest_URLPathEscapeAll.esc_len (a0.data.toList.take k)
      have HT := Lib.hid hts; clear hts
      have HN := Lib.hid hlen; clear hlen
      go_upto_region 7 with (fail)
      obtain ⟨x, hx⟩ : ∃ x : UInt8, (a0[k]'hlt) = x := ⟨_, rfl⟩
      obtain ⟨c, hc⟩ : ∃ c : Int, (x.toNat : Int) = c := ⟨_, rfl⟩
      rw [hx]
      have HX := Lib.hid hx; clear hx
      have hb0 : 0 ≤ c := by omega
      have hb1' : c ≤ 255 := by have := x.toNat_lt; omega
      rw [hc]
      have HC := Lib.hid hc; clear hc
      obtain ⟨p1, e1⟩ : ∃ p, decide ((65 : Int) ≤ c) = p := ⟨_, rfl⟩
      obtain ⟨p2, e2⟩ : ∃ p, decide (c ≤ (90 : Int)) = p := ⟨_, rfl⟩
      obtain ⟨p3, e3⟩ : ∃ p, decide ((97 : Int) ≤ c) = p := ⟨_, rfl⟩
      obtain ⟨p4, e4⟩ : ∃ p, decide (c ≤ (122 : Int)) = p := ⟨_, rfl⟩
      obtain ⟨p5, e5⟩ : ∃ p, decide ((48 : Int) ≤ c) = p := ⟨_, rfl⟩
      obtain ⟨p6, e6⟩ : ∃ p, decide (c ≤ (57 : Int)) = p := ⟨_, rfl⟩
      obtain ⟨q1, g1⟩ : ∃ p, (c == (47 : Int)) = p := ⟨_, rfl⟩
      obtain ⟨q2, g2⟩ : ∃ p, (c == (45 : Int)) = p := ⟨_, rfl⟩
      obtain ⟨q3, g3⟩ : ∃ p, (c == (46 : Int)) = p := ⟨_, rfl⟩
      obtain ⟨q4, g4⟩ : ∃ p, (c == (95 : Int)) = p := ⟨_, rfl⟩
      obtain ⟨q5, g5⟩ : ∃ p, (c == (126 : Int)) = p := ⟨_, rfl⟩
      have hpl : rest_URLPathEscapeAll.plain c = ((p1 && p2) || ((p3 && p4) || ((p5 && p6) || (q1 || (q2 || (q3 || (q4 || q5))))))) := by
        subst e1 e2 e3 e4 e5 e6 g1 g2 g3 g4 g5
        rw [Bool.eq_iff_iff]
        simp [rest_URLPathEscapeAll.plain]
      have HP := Lib.hid hpl; clear hpl
      go_cut [59] (fun v wc => v = .bool (rest_URLPathEscapeAll.plain c) ∧ wc = wr)
      case first =>
        go_wp2
        all_goals go_meet
        all_goals (case rel => exact ⟨by rw [HP.out]; simp [*], rfl⟩)
      case rest =>
        obtain ⟨rfl, rfl⟩ := hcut
        clear e1 e2 e3 e4 e5 e6 g1 g2 g3 g4 g5 HP
        have hB := HB.out
        have hbl : (rest_URLPathEscapeAll.esc (a0.data.toList.take k)).length + 3 ≤ 140737488355328 := by
          have := HN.out; have h2 : (a0.data.toList.take k).length ≤ k := List.length_take_le _ _; omega
        have HBL := Lib.hid hbl; clear hbl
        obtain rfl : c = (x.toNat : Int) := HC.out.symm
        by_cases hp : rest_URLPathEscapeAll.plain (x.toNat : Int) = true
        · rw [hp]
          have h1 : rest_URLPathEscapeAll.one x = [x] := by unfold rest_URLPathEscapeAll.one; rw [if_pos hp]
          have H1 := Lib.hid h1; clear h1
          go_wp2_with (go_at_call 35; (with_reducible refine (bld_write _ _ _ x _ rfl _ hB (by have := HBL.out; omega) hwz).mono ?_); rintro e w2 ⟨rfl, h2, hb2⟩)
          go_roundw
          case rel =>
            refine ⟨k + 1, by omega, by go_num, ?_, HL.out.trans hb2⟩
            rw [HT.out, rest_URLPathEscapeAll.esc_snoc, HX.out, H1.out]; exact h2
          case measure => simp [intOf]; omega
        · rw [show rest_URLPathEscapeAll.plain (x.toNat : Int) = false by simpa using hp]
          have h1 : rest_URLPathEscapeAll.one x = [37, rest_URLPathEscapeAll.hex (x.toNat / 16), rest_URLPathEscapeAll.hex (x.toNat % 16)] := by unfold rest_URLPathEscapeAll.one; rw [if_neg hp]
          have H1 := Lib.hid h1; clear h1 hp
          go_wp2_with (go_at_call 35; (with_reducible refine (bld_write _ _ _ 37 37 rfl _ hB (by have := HBL.out; omega) hwz).mono ?_); rintro e w2 ⟨rfl, h2, hb2⟩; have hz2 := hb2.size)
          have g1 := rest_URLPathEscapeAll.hex_at (x.toNat / 16) (by show _ < 16; have := x.toNat_lt; omega)
          have G1 := Lib.hid g1; clear g1
          (with_reducible refine (bld_write _ _ _ (rest_URLPathEscapeAll.hex (x.toNat / 16)) _ G1.out _ h2 (by have := HBL.out; simp; omega) (by omega)).mono ?_)
          rintro e w3 ⟨rfl, h3, hb3⟩
          have hz3 := hb3.size
          go_wp2_with fail
          have g2 := rest_URLPathEscapeAll.hex_at (x.toNat % 16) (by show _ < 16; omega)
          have G2 := Lib.hid g2; clear g2
          (with_reducible refine (bld_write _ _ _ (rest_URLPathEscapeAll.hex (x.toNat % 16)) _ G2.out _ h3 (by have := HBL.out; simp; omega) (by omega)).mono ?_)
          rintro e w4 ⟨rfl, h4, hb4⟩
          go_wp2_with fail
          go_roundw
          case rel =>
            refine ⟨k + 1, by omega, by go_num, ?_, ((HL.out.trans hb2).trans hb3).trans hb4⟩
            rw [HT.out, rest_URLPathEscapeAll.esc_snoc, HX.out, H1.out]
            simpa using h4
          case measure => simp [intOf]; omega
    · have : k = a0.size := by omega
      subst this
      have hB := HB.out
      rw [List.take_of_length_le (by exact Nat.le_refl _)] at hB
      obtain rfl : (⟨(rest_URLPathEscapeAll.esc a0.data.toList).toArray⟩ : ByteArray) = r := HR.out
      go_wp2_with (go_at_call 36; (with_reducible refine (Ytecfojgamdilnaa.Shelf.Try.Builder_String_any _ _ _ _ hB hwz).mono ?_); rintro e w2 ⟨rfl, hb2⟩)
      go_ret
      exact ⟨rfl, HL.out.trans hb2⟩

/-! ### impl_EscapePathAll: function 18 -/
def impl_EscapePathAll.f (a0 : ByteArray) : Option (ByteArray) := (rest_URLPathEscapeAll.f a0).bind fun t101 => (some t101)
set_option maxHeartbeats 8000000 in
set_option maxRecDepth 100000 in
theorem impl_EscapePathAll.calls (a0 : ByteArray) (r : ByteArray) (w : World) (h : impl_EscapePathAll.f a0 = some r) :
    Calls Try.prog 18 #[.string a0] w fun e w' => e = .returned (.string r) ∧ Below w.heap.size w w' := by
  have HB := Aside0.mk (Below.refl w.heap.size w)
  have H : ((rest_URLPathEscapeAll.f a0).bind fun t101 => (some t101)) = some r := h
  clear h
  replace H := Option.bind_eq_some_iff.mp H
  obtain ⟨t101, A20, H⟩ := H
  replace H : (some t101) = some r := H
  have A2 := Aside0.mk A20
  clear A20
  obtain rfl := Option.some.inj H
  go_enter Try.func18, Try.ntmps18
  go_wp2_with (first | ((with_reducible refine gate_callee (f := 29) rfl ?_); refine goesL_ (some 4) rfl rfl Try.func29 (by kernel_rfl) rfl #[.string a0] rfl (by (try simp only [List.map_toArray, List.map_cons, List.map_nil]); first | done | rfl | (simp only [List.length_drop, List.length_take]; rfl)) ?_; (with_reducible refine (rest_URLPathEscapeAll.calls a0 t101 _ A2.out).mono ?_); rintro e w3 ⟨rfl, hb⟩; refine ⟨_, rfl, ?_⟩; have n0_ := Aside0.mk (below_step (by repeat (first | (with_reducible first | exact HB.out | apply below_alloc | apply pw_below_drewN | apply below_drew1) | exact HB.out)) hb); clear HB; have HB := n0_; clear n0_; (try clear hb); (try clear hb2); (try clear hk); (try clear hi)))
  go_ret
  exact ⟨by first | rfl | (simp [errW_none, errW_some] <;> rfl) | (simp [*, errW_none, errW_some] <;> rfl), by repeat (first | (with_reducible first | exact HB.out | apply below_alloc | apply pw_below_drewN | apply below_drew1) | exact HB.out)⟩

end Go.Proofs.Ytecfojgamdilnaa.PFnEscapeAll
