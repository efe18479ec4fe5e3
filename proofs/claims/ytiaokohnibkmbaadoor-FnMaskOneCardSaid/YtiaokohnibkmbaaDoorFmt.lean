import Derived.Test.YtiaokohnibkmbaaDoorProg
import Derived.Test.YtiaokohnibkmbaaDoorWWords
import Derived.WalkKit
import Derived.Lib.Hide
import Derived.Lib.BufferRead
import Derived.Lib.SmallJoins
import Derived.Lib.ConvBytes
import Derived.Laws.Rows
import Derived.Below
import Derived.Deep.LoopGhost
import Derived.WalkSmall
import Derived.BigQuiet
import Derived.Deep.QuietTactic
import Derived.RegionTactic
import Derived.IntWalk
import Derived.WideShapes
namespace Go.Proofs.YtiaokohnibkmbaaDoor.Fmt
open Go.RowKit Go.Proofs.YtiaokohnibkmbaaDoorW.PrintWords
set_option linter.unusedVariables false
set_option linter.unusedSimpArgs false

/-- The table by which the lowest bit is found. -/
theorem band16 : Go.bits .and .u64 16 (IntKind.u64.wrap (-16)) = 16 := by decide
theorem wmul : IntKind.u64.wrap (16 * 285870213051353865) = 4573923408821661840 := by decide
theorem tz64 (w : World) (h : w.cell? ⟨10, 15, none⟩ = some (.int .u8 4)) : Calls Tryd.prog 82 #[.int .u64 16] w fun e w' => e = .returned (.int .i64 4) ∧ w = w' := by
  have b1 := band16
  have b2 := wmul
  go_enter Tryd.func82, Tryd.ntmps82
  go_wp2
  go_ret
  exact ⟨rfl, rfl⟩
theorem tz (w : World) (h : w.cell? ⟨10, 15, none⟩ = some (.int .u8 4)) : Calls Tryd.prog 71 #[.int .u64 16] w fun e w' => e = .returned (.int .i64 4) ∧ w = w' := by
  go_enter Tryd.func71, Tryd.ntmps71
  go_wp2_with (go_at_call 82; (with_reducible refine (tz64 _ h).mono ?_); rintro e w' ⟨rfl, rfl⟩)
  go_ret
  exact ⟨rfl, rfl⟩
theorem pow2 (w : World) : Calls Tryd.prog 70 #[.int .i64 16] w fun e w' => e = .returned (.bool true) ∧ w = w' := by
  have b1 : Go.bits .and .i64 16 15 = 0 := by decide
  go_enter Tryd.func70, Tryd.ntmps70
  go_wp2
  go_ret
  exact ⟨rfl, rfl⟩

/-! ### the digits, plain -/
def hexDig (d : Nat) : UInt8 := if d < 10 then UInt8.ofNat (48 + d) else UInt8.ofNat (87 + d)
/-- The last j digits of u, in base 16. -/
def tailDigs (u : Nat) : Nat → List UInt8
  | 0 => []
  | j + 1 => hexDig (u / 16 ^ j % 16) :: tailDigs u j
theorem tailDigs_length (u j : Nat) : (tailDigs u j).length = j := by induction j <;> simp [tailDigs, *]
def arr (u j : Nat) : Array Value := (List.replicate (65 - j) (Value.int .u8 0) ++ Lib.byteCells (tailDigs u j)).toArray
theorem arr_size (u j : Nat) (h : j ≤ 65) : (arr u j).size = 65 := by simp [arr, Lib.byteCells, tailDigs_length]; omega
theorem arr_get (u j : Nat) (h : j < 65) : (arr u j)[64 - j]? = some (.int .u8 0) := by
  simp only [arr, List.getElem?_toArray]
  rw [List.getElem?_append_left (by simp; omega)]
  simp [List.getElem?_replicate]; omega
theorem arr_set (u j : Nat) (h : j < 65) : (arr u j).setIfInBounds (64 - j) (.int .u8 ((hexDig (u / 16 ^ j % 16)).toNat : Int)) = arr u (j + 1) := by
  apply Array.ext'
  simp only [arr, Array.toList_setIfInBounds]
  have e : 65 - j = (64 - j) + 1 := by omega
  have e2 : 65 - (j + 1) = 64 - j := by omega
  rw [e, e2, List.replicate_succ', List.append_assoc, List.set_append_right _ _ (by simp)]
  simp [tailDigs, Lib.byteCells]

/-- s is u in the digits of base 16. -/
def Hex (u : Nat) (s : ByteArray) : Prop := ∃ j, j ≤ 15 ∧ u / 16 ^ j < 16 ∧ (∀ k, k < j → 16 ≤ u / 16 ^ k) ∧ s = ⟨(tailDigs u (j + 1)).toArray⟩
theorem sizeOf_5 (w : World) : (sizeOf 5).run Tryd.prog w = .ok 1 w := by kernel_rfl
theorem arr_zero (u : Nat) : Tryd.zeroCells109 = arr u 0 := by simp only [arr, tailDigs, Lib.byteCells, List.map_nil, List.append_nil]; kernel_rfl
theorem band15 (u : Nat) : Go.bits .and .u64 (u : Int) 15 = ((u % 16 : Nat) : Int) := by
  unfold Go.bits
  simp
  show IntKind.u64.wrap (((u % 2 ^ 64 &&& 15) : Nat) : Int) = (u : Int) % 16
  have h := Nat.and_two_pow_sub_one_eq_mod (u % 2 ^ 64) 4
  have h' : (u % 2 ^ 64 &&& 15) = u % 2 ^ 64 % 16 := h
  rw [h', IntKind.wrap_u64]
  omega
theorem digs16 : ∀ d : Fin 16, ((⟨#[48, 49, 50, 51, 52, 53, 54, 55, 56, 57, 97, 98, 99, 100, 101, 102, 103, 104, 105, 106, 107, 108, 109, 110, 111, 112, 113, 114, 115, 116, 117, 118, 119, 120, 121, 122]⟩ : ByteArray)[d.val]'(by have := d.isLt; show d.val < 36; omega)) = hexDig d.val := by decide
theorem digs_at (M : Nat) {h : M % 16 < (⟨#[48, 49, 50, 51, 52, 53, 54, 55, 56, 57, 97, 98, 99, 100, 101, 102, 103, 104, 105, 106, 107, 108, 109, 110, 111, 112, 113, 114, 115, 116, 117, 118, 119, 120, 121, 122]⟩ : ByteArray).size} : ((⟨#[48, 49, 50, 51, 52, 53, 54, 55, 56, 57, 97, 98, 99, 100, 101, 102, 103, 104, 105, 106, 107, 108, 109, 110, 111, 112, 113, 114, 115, 116, 117, 118, 119, 120, 121, 122]⟩ : ByteArray)[M % 16]'h) = hexDig (M % 16) := digs16 ⟨M % 16, Nat.mod_lt _ (by decide)⟩
theorem digs_any (M : Nat) (hM : M < 16) {h : M < (⟨#[48, 49, 50, 51, 52, 53, 54, 55, 56, 57, 97, 98, 99, 100, 101, 102, 103, 104, 105, 106, 107, 108, 109, 110, 111, 112, 113, 114, 115, 116, 117, 118, 119, 120, 121, 122]⟩ : ByteArray).size} : ((⟨#[48, 49, 50, 51, 52, 53, 54, 55, 56, 57, 97, 98, 99, 100, 101, 102, 103, 104, 105, 106, 107, 108, 109, 110, 111, 112, 113, 114, 115, 116, 117, 118, 119, 120, 121, 122]⟩ : ByteArray)[M]'h) = hexDig M := digs16 ⟨M, hM⟩
theorem arr_tail (u j i : Nat) (h : j ≤ 15) (hi : i < j + 1) : (arr u (j + 1))[64 - j + i]? = some (.int .u8 (((tailDigs u (j + 1))[i]'(by rw [tailDigs_length]; exact hi)).toNat : Int)) := by
  simp only [arr, List.getElem?_toArray]
  rw [List.getElem?_append_right (by simp)]
  have e : 64 - j + i - (List.replicate (65 - (j + 1)) (Value.int .u8 0)).length = i := by simp
  rw [e]
  simp [Lib.byteCells, tailDigs_length, hi]
theorem le15 (u j : Nat) (hu : u < 18446744073709551616) (h : 16 ≤ u / 16 ^ j) : j + 1 ≤ 15 := by
  rcases Nat.lt_or_ge j 15 with h' | h'
  · omega
  · exfalso
    have h1 : u / 16 ^ j ≤ u / 16 ^ 15 := Nat.div_le_div_left (Nat.pow_le_pow_right (by decide) h') (by decide)
    have h2 : u / 16 ^ 15 < 16 := by rw [Nat.div_lt_iff_lt_mul (by decide)]; exact hu
    omega
set_option maxRecDepth 100000 in
set_option maxHeartbeats 1000000 in
theorem bitsHex (u : Nat) (w : World) (hu : u < 18446744073709551616) (h : w.cell? ⟨10, 15, none⟩ = some (.int .u8 4)) :
    Calls Tryd.prog 52 #[.slice none 0 0, .int .u64 u, .int .i64 16, .bool false, .bool false] w fun e w' => (∃ s, Hex u s ∧ e = .returned (.tuple #[.slice none 0 0, .string s])) ∧ Below w.heap.size w w' := by
  have hlt := World.block_lt_of_cell? w _ h
  have HC : Hid (∀ o, (w.alloc o).cell? ⟨10, 15, none⟩ = some (.int .u8 4)) := Lib.hid fun o => ((Below.alloc (Below.refl _ w) (Nat.le_refl _) o).cell (p := ⟨10, 15, none⟩) hlt).trans h
  clear hlt h
  go_enter Tryd.func52, Tryd.ntmps52
  go_wp2_with (first | (go_at_call 70; (with_reducible refine (pow2 _).mono ?_); rintro e w' ⟨rfl, rfl⟩) | (go_at_call 71; (with_reducible refine (tz _ (HC.out _)).mono ?_); rintro e w' ⟨rfl, rfl⟩))
  clear HC
  go_loopw [1, 13] (fun v i wr => ∃ j M : Nat, j ≤ 15 ∧ M = u / 16 ^ j ∧ (∀ k, k < j → 16 ≤ u / 16 ^ k) ∧ v = .int .u64 (M : Int) ∧ i = .int .i64 ((65 - j : Nat) : Int) ∧ wr.heap[w.heap.size]? = some (.cells (arr u j) 109 (0, 0)) ∧ Below w.heap.size w wr) (fun _ i _ => (intOf i).toNat)
  case atStart => exact ⟨0, u, by omega, by simp, fun k hk => by omega, rfl, rfl, (heap_alloc_new w _).trans (by rw [arr_zero]), (Below.refl _ _).alloc (Nat.le_refl _) _⟩
  case round =>
    obtain ⟨j, M, hj, hM, hall, rfl, rfl, hh, hB⟩ := hrel
    have HM := Lib.hid hM
    have HA := Lib.hid hall
    have HB := Lib.hid hB
    have hMlt : M < 18446744073709551616 := by rw [hM]; exact Nat.lt_of_le_of_lt (Nat.div_le_self _ _) hu
    have hb15 := band15 M
    have hm16 : M % 16 < 16 := Nat.mod_lt _ (by decide)
    have hcell : wr.cell? ⟨w.heap.size, 64 - j, none⟩ = some (.int .u8 0) := (Lib.cell_of_heap hh _).trans (arr_get u j (by omega))
    have hfz : wr.frozen? ⟨w.heap.size, 64 - j, none⟩ = false := by simp [World.frozen?, hh]
    have HH := Lib.hid hh
    have hi : IntKind.i64.wrap (((65 - j : Nat) : Int) - 1) = ((64 - j : Nat) : Int) := by
      have e : (((65 - j : Nat) : Int) - 1) = ((64 - j : Nat) : Int) := by omega
      rw [e]; exact IntWalk.i64_in _ (by omega)
    clear hM hall hB hh
    by_cases hge : 16 ≤ M
    · go_wp2
      go_roundw
      case rel =>
        refine ⟨j + 1, M / 16, ?_, ?_, ?_, by simp, by rw [show 65 - (j + 1) = 64 - j by omega], ?_, ?_⟩
        · exact le15 u j hu (by rw [← HM.out]; exact hge)
        · rw [HM.out, Nat.pow_succ, Nat.div_div_eq_div_mul]
        · intro k hk
          by_cases e : k < j
          · exact HA.out k e
          · obtain rfl : k = j := by omega
            rw [← HM.out]; exact hge
        · rw [Joins.block_setCell HH.out, ← arr_set u j (by omega), digs_at M, HM.out]
        · exact HB.out.setCell (Nat.le_refl _) _
      case measure => simp [intOf]; omega
    · have hM16 : M < 16 := by omega
      have hmm : M % 16 = M := Nat.mod_eq_of_lt hM16
      have hdg := fun h => digs_any M hM16 (h := h)
      have hal : Tryd.prog.arrayLen 109 = 65 := by kernel_rfl
      have hsl : ∀ W, (Instr.sliceAt 109 (.pointer (some ⟨w.heap.size, 0, none⟩)) (some (.int .i64 ((64 - j : Nat) : Int))) none none).run Tryd.prog W = .ok (.slice (some ⟨w.heap.size, 64 - j, none⟩) (j + 1) (j + 1)) W := fun W => by
        rw [run_sliceAt_array_l W 109 ⟨w.heap.size, 0, none⟩ (by simp [Program.arrayLen, Program.elem, Tryd.underlying109]) .i64 ((64 - j : Nat) : Int) (by omega) (by rw [hal]; omega)]
        have hel : Tryd.prog.elem 109 = 5 := by kernel_rfl
        have hsz := sizeOf_5 W
        rw [hel, hal, hsz]
        simp only [Result.andThen, slicedAt]
        rw [if_neg (by omega), WideShapes.add_plain]
        have e1 : (65 - ((64 - j : Nat) : Int).toNat) = j + 1 := by omega
        have e2 : 0 + ((64 - j : Nat) : Int).toNat * 1 = 64 - j := by omega
        rw [e1, e2]
      have hH2 : (wr.setCell ⟨w.heap.size, 64 - j, none⟩ (.int .u8 ((hexDig M).toNat : Int))).heap[w.heap.size]? = some (.cells (arr u (j + 1)) 109 (0, 0)) := by
        rw [Joins.block_setCell HH.out, ← arr_set u j (by omega), ← HM.out, hmm]
      have hcv : (convert 31 9 (.slice (some ⟨w.heap.size, 64 - j, none⟩) (j + 1) (j + 1))).run Tryd.prog (wr.setCell ⟨w.heap.size, 64 - j, none⟩ (.int .u8 ((hexDig M).toNat : Int))) = .ok (.string ⟨(tailDigs u (j + 1)).toArray⟩) (wr.setCell ⟨w.heap.size, 64 - j, none⟩ (.int .u8 ((hexDig M).toNat : Int))) := by
        have hx := run_convert_bytes_back (P := Tryd.prog) (wr.setCell ⟨w.heap.size, 64 - j, none⟩ (.int .u8 ((hexDig M).toNat : Int))) 31 9 5 ⟨w.heap.size, 64 - j, none⟩ (j + 1) (tailDigs u (j + 1)) Tryd.underlying31 Tryd.underlying5 Tryd.underlying9 (fun i hi => by
          rw [tailDigs_length] at hi
          rw [WideShapes.add_plain, Lib.cell_of_heap hH2]
          exact arr_tail u j i (by omega) hi)
        rw [tailDigs_length] at hx
        exact hx
      have HH2 := Lib.hid hH2
      clear hH2 hal
      go_wp2
      go_ret2
      exact ⟨⟨_, ⟨j, hj, by rw [← HM.out]; exact hM16, HA.out, rfl⟩, rfl⟩, HB.out.setCell (Nat.le_refl _) _⟩

/-- FormatUint at base 16. -/
theorem innerHex (u : Nat) (w : World) (hu : u < 18446744073709551616) (h : w.cell? ⟨10, 15, none⟩ = some (.int .u8 4)) :
    Calls Tryd.prog 33 #[.int .u64 u, .int .i64 16] w fun e w' => (∃ s, Hex u s ∧ e = .returned (.string s)) ∧ Below w.heap.size w w' := by
  go_enter Tryd.func33, Tryd.ntmps33
  go_wp2_with (go_at_call 52; (with_reducible refine (bitsHex u w hu h).mono ?_); rintro e w1 ⟨⟨s, hs, rfl⟩, hb⟩; have HS := Lib.hid hs; have HB := Lib.hid hb; clear hs hb)
  go_ret
  exact ⟨⟨_, HS.out, rfl⟩, HB.out⟩
theorem formatHex (u : Nat) (w : World) (hu : u < 18446744073709551616) (h : w.cell? ⟨10, 15, none⟩ = some (.int .u8 4)) :
    Calls Tryd.prog 18 #[.int .u64 u, .int .i64 16] w fun e w' => (∃ s, Hex u s ∧ e = .returned (.string s)) ∧ Below w.heap.size w w' := by
  go_enter Tryd.func18, Tryd.ntmps18
  go_wp2_with (go_at_call 33; (with_reducible refine (innerHex u w hu h).mono ?_); rintro e w1 ⟨⟨s, hs, rfl⟩, hb⟩; have HS := Lib.hid hs; have HB := Lib.hid hb; clear hs hb)
  go_ret
  exact ⟨⟨_, HS.out, rfl⟩, HB.out⟩
end Go.Proofs.YtiaokohnibkmbaaDoor.Fmt
