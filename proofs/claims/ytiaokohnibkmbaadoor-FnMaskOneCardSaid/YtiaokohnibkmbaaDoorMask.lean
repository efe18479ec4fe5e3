import Derived.Test.YtiaokohnibkmbaaDoorTexts
import Derived.Test.YtiaokohnibkmbaaDoorShelf
import Derived.Test.YtiaokohnibkmbaaDoorWMore
import Derived.RegionCalls
import Derived.Deep.RegionWith
namespace Go.Proofs.YtiaokohnibkmbaaDoor.Texts
open Go.RowKit Go.Proofs.YtiaokohnibkmbaaDoor.PFnMaskOne Go.Proofs.YtiaokohnibkmbaaDoor.Fmt Go.Proofs.YtiaokohnibkmbaaDoorW.PrintWords Go.Proofs.YtiaokohnibkmbaaDoorW.PrintMore
set_option linter.unusedVariables false
set_option linter.unusedSimpArgs false
theorem info9 : (Tryd.prog.info? 9).map (fun i => (i.zero, i.size, i.bytes)) = some (some (.string ⟨#[]⟩), 1, 16) := by kernel_rfl
theorem name_at (a : Int) (w : World) (n : ByteArray) (b : Bool) (h : nm a = (n, b)) : Calls Tryd.prog 16 #[.int .u64 a] w fun e w' => e = .returned (.tuple #[.string n, .bool b]) ∧ Drawn0 w w' := encoder_encodingToName.calls a n b w (by rw [nm_is, h])
theorem dig_ascii : ∀ d : Fin 16, (hexDig d.val).toNat < 128 := by decide
theorem digs_ascii (u : Nat) : ∀ j, ∀ b ∈ tailDigs u j, b.toNat < 128 := by
  intro j
  induction j with
  | zero => intro b hb; cases hb
  | succ j ih =>
    intro b hb
    rcases List.mem_cons.1 hb with rfl | hb
    · exact dig_ascii ⟨_, Nat.mod_lt _ (by decide)⟩
    · exact ih b hb
theorem hexL_len (k : Nat) : (hexL k).length = k / 4 + 1 := tailDigs_length _ _
theorem hex_call (k : Nat) (hk : k < 64) (w : World) (h : w.cell? ⟨10, 15, none⟩ = some (.int .u8 4)) :
    Calls Tryd.prog 18 #[.int .u64 (bitv k), .int .i64 16] w fun e w' => e = .returned (.string ⟨(hexL k).toArray⟩) ∧ Below w.heap.size w w' := by
  unfold bitv
  rw [if_pos hk]
  refine (formatHex (2 ^ k) w (by have := Nat.pow_le_pow_right (n := 2) (by decide) (show k ≤ 63 by omega); omega) h).mono ?_
  rintro e w' ⟨⟨s, hs, rfl⟩, hb⟩
  rw [hex_is k s hs]
  exact ⟨rfl, hb⟩
theorem upper_call (k : Nat) (hk : k < 64) (w : World) :
    Calls Tryd.prog 17 #[.string ⟨(hexL k).toArray⟩] w fun e w' => e = .returned (.string ⟨(Lib.toUpperA (hexL k)).toArray⟩) ∧ Below w.heap.size w w' := by
  have h := Shelf.Tryd.strings_ToUpper_ascii ⟨(hexL k).toArray⟩ w (by show (hexL k).toArray.size ≤ _; simp [hexL_len]; omega) (fun j b hb => digs_ascii _ _ b (by have h2 := List.mem_of_getElem? hb; simpa [hexL] using h2))
  simpa using h
theorem name_drew (a : Int) (w : World) (n : ByteArray) (b : Bool) (h : nm a = (n, b)) : Calls Tryd.prog 16 #[.int .u64 a] w fun e w' => e = .returned (.tuple #[.string n, .bool b]) ∧ ∃ q, w' = w.drewN q :=
  (name_at a w n b h).mono fun e w' hh => ⟨hh.1, hh.2.out⟩
theorem R_at {e : Nat} {w : World} {base : Nat} {ok : Nat → Prop} {v : Value} {xs : List ByteArray} (h : Kd.string.R e w base ok v xs) (hne : xs ≠ []) :
    ∃ g cap, v = .slice (some ⟨g, 0, none⟩) xs.length cap ∧ xs.length ≤ cap ∧ g < w.heap.size ∧ ∀ j x, xs[j]? = some x → w.cell? ⟨g, 0 + j, none⟩ = some (.string x) := by
  obtain ⟨A, c, rfl, hc, hl, _, hr⟩ := Kd.R_reads h
  obtain ⟨ad, rfl, hr2⟩ := hr (by cases xs with | nil => exact absurd rfl hne | cons _ _ => simp)
  obtain ⟨inner, ho, hp⟩ := h.2
  have hh := ho.2
  rcases hh with ⟨h1, _⟩ | ⟨g, cap, cur, h1, _, hb, _⟩
  · cases h1
  · cases h1
    refine ⟨g, c, rfl, hc, (Array.getElem?_eq_some_iff.1 hb).1, fun j x hx => ?_⟩
    obtain ⟨cs, _, hcs, hcell⟩ := hr2 j x hx
    have hcs' : cs = [.string x] := hcs
    have := hcell 0 (.string x) (by rw [hcs']; rfl)
    rw [WideShapes.add_plain] at this
    simpa [Kd.string, Kd.scalar] using this
theorem join_call (m : Int) (k : Nat) (hk : k = 64) (v : Value) (w : World) (base : Nat) (ok : Nat → Prop) (h : Kd.string.R 9 w base ok v (pieces m k)) (hlen : (Lib.join ((pieces m k).map (·.data.toList)) [44]).length ≤ 140737488355328) (hl : (pieces m k).length ≤ 64) :
    Calls Tryd.prog 19 #[v, .string ⟨#[44]⟩] w fun e w' => e = .returned (.string ⟨(Lib.join ((pieces m k).map (·.data.toList)) [44]).toArray⟩) ∧ Below w.heap.size w w' := by
  generalize pieces m k = xs at h hlen hl
  by_cases hne : xs = []
  · subst hne
    obtain ⟨A, c, rfl, hc, _⟩ := Kd.R_reads h
    exact (Shelf.Tryd.strings_Join_none A c _ w).mono fun e w' hh => ⟨by rw [hh.1]; rfl, by rw [hh.2]; exact Below.refl _ _⟩
  · obtain ⟨g, cap, rfl, hc, hg, hcell⟩ := R_at h hne
    exact Shelf.Tryd.strings_Join g 0 cap xs ⟨#[44]⟩ w hcell hg (by omega) hc hlen
theorem add_0x (k : Nat) (hk : k < 64) (W : World) : (Op.stringOp .add ⟨#[48, 120]⟩ ⟨(Lib.toUpperA (hexL k)).toArray⟩).run Tryd.prog W = .ok (.string ⟨(48 :: 120 :: Lib.toUpperA (hexL k)).toArray⟩) W :=
  run_string_add_lists W [48, 120] (Lib.toUpperA (hexL k)) (by simp) (by simp [Lib.toUpperA, hexL_len]; omega)
theorem pieces_len (m : Int) : ∀ K, (pieces m K).length ≤ K := by
  intro K
  induction K with
  | zero => simp [pieces]
  | succ K ih => simp only [pieces, List.length_append]; split <;> simp <;> omega
theorem bit_next (k : Nat) (h : k < 64) : IntKind.u64.wrap (bitv k * 2) = bitv (k + 1) := by
  unfold bitv
  rw [if_pos h, IntKind.wrap_u64]
  by_cases e : k = 63
  · subst e; decide
  · rw [if_pos (by omega), Nat.pow_succ]
    have h2 : 2 ^ k ≤ 2 ^ 62 := Nat.pow_le_pow_right (by decide) (by omega)
    omega
set_option maxHeartbeats 1000000 in
theorem string_any (m : Int) (w : World) (h : w.cell? ⟨10, 15, none⟩ = some (.int .u8 4)) :
    Calls Tryd.prog 12 #[.int .u64 m] w fun e w' => e = .returned (.string (text m)) ∧ Below w.heap.size w w' := by
  have hlt0 := World.block_lt_of_cell? w _ h
  have HC := Lib.hid h
  clear h
  rcases hnm : nm m with ⟨n, b⟩
  have HN := Lib.hid (name_at m w n b hnm)
  cases b with
  | true =>
    have ht : text m = n := by unfold text; rw [if_pos (by rw [hnm]), hnm]
    rw [ht]
    clear ht hnm
    go_enter Tryd.func12, Tryd.ntmps12
    go_wp2_with (go_at_call 16; (with_reducible refine HN.out.mono ?_); rintro e w1 ⟨rfl, hd⟩; have HD := Lib.hid hd; clear hd)
    go_ret
    exact ⟨rfl, HD.out.below⟩
  | false =>
    have ht : text m = joined m := by unfold text; rw [if_neg (by rw [hnm]; simp)]
    rw [ht]
    clear ht hnm
    go_enter Tryd.func12, Tryd.ntmps12
    go_wp2_with (go_at_call 16; (with_reducible refine HN.out.mono ?_); rintro e w1 ⟨rfl, hd⟩; have HD := Lib.hid hd; clear hd)
    clear HN
    go_loopg [5, 6] 64 (fun g v i wr => ∃ k : Nat, g + k = 64 ∧ i = .int .u64 (bitv k) ∧ Kd.string.R 9 wr w.heap.size (fun _ => True) v (pieces m k) ∧ Below w.heap.size w wr)
    case atStart => exact ⟨0, by omega, rfl, Kd.R_nil _ _ _ _ _, HD.out.below⟩
    case round =>
      obtain ⟨k, hk, rfl, ho, hb⟩ := hrel
      obtain ⟨A5, c5, rfl⟩ := Kd.R_slice ho
      have HO := Lib.hid ho
      have HB := Lib.hid hb
      have hpl := pieces_len m k
      clear ho hb
      by_cases hlt : k < 64
      · have b0 : (bitv k != 0) = true := by
          unfold bitv; rw [if_pos hlt]; have hk2 := Nat.two_pow_pos k; generalize 2 ^ k = p at hk2; simp; omega
        have b0' : (bitv k == 0) = false := by
          unfold bitv; rw [if_pos hlt]; have hk2 := Nat.two_pow_pos k; generalize 2 ^ k = p at hk2; simp; omega
        have hnext := bit_next k hlt
        cases hh : has m k with
        | false =>
          have hp : pieces m (k + 1) = pieces m k := by simp [pieces, hh]
          have hh' : (Go.bits .and .u64 m (bitv k) != 0) = false := hh
          have HP := Lib.hid hp
          clear hh hp
          go_wp2
          go_roundg (64 - (k + 1))
          case rel => exact ⟨k + 1, by omega, rfl, by rw [HP.out]; exact HO.out, HB.out⟩
          case measure => omega
        | true =>
          have hp : pieces m (k + 1) = pieces m k ++ [piece k] := by simp [pieces, hh]
          have hh' : (Go.bits .and .u64 m (bitv k) != 0) = true := hh
          have HP := Lib.hid hp
          clear hh hp
          rcases hnk : nm (bitv k) with ⟨n2, b2⟩
          have HK := Lib.hid (name_drew (bitv k) wr n2 b2 hnk)
          cases b2 with
          | true =>
            have hpk : piece k = n2 := by unfold piece; rw [if_pos (by rw [hnk]), hnk]
            have HPK := Lib.hid hpk
            clear hnk hpk
            have hws : w.heap.size ≤ wr.heap.size := HB.out.size
            have HWS := Lib.hid hws
            clear hws
            go_wp2_with (first | (go_at_call 16; (with_reducible refine HK.out.mono ?_); rintro e w2 ⟨rfl, q2, rfl⟩) | ((with_reducible refine gate_builtin (b := .append) (xs := #[.tmp 30, .tmp 32]) rfl ?_); at_builtin; refine Kd.R_append Kd.string (w0 := w) w.heap.size rfl (.tmp 30) (.tmp 32) 40 9 (.string ⟨#[]⟩) 16 rfl Tryd.underlying40 info9 rfl (by decide) (by decide) (.slice A5 (pieces m k).length c5) (pieces m k) n2 [.string n2] (fun _ => True) (fun _ => False) rfl rfl rfl (fun _ hk => hk.elim) (fun _ _ => trivial) (Kd.R_drewN HO.out q2) (pw_below_drewN HB.out q2) HWS.out (by omega) ?_; intro v6 w6 ho6 hb6 hg6 hn6; have HO6 := Lib.hid ho6; have HB6 := Lib.hid hb6; clear ho6 hb6 hg6 hn6))
            go_roundg (64 - (k + 1))
            case rel => exact ⟨k + 1, by omega, rfl, by rw [HP.out, HPK.out]; exact HO6.out, HB6.out⟩
            case measure => omega
          | false =>
            have hpk : piece k = ⟨(48 :: 120 :: Lib.toUpperA (hexL k)).toArray⟩ := by unfold piece; rw [if_neg (by rw [hnk]; simp)]
            have HPK := Lib.hid hpk
            have hadd := fun (W : World) => add_0x k hlt W
            clear hnk hpk
            go_wp2_with (first | (go_at_call 16; (with_reducible refine HK.out.mono ?_); rintro e w2 ⟨rfl, q2, rfl⟩) | (go_at_call 18; (with_reducible refine (hex_call k hlt _ (((pw_below_drewN HB.out q2).cell (p := ⟨10, 15, none⟩) hlt0).trans HC.out)).mono ?_); rintro e w3 ⟨rfl, hb3⟩; have HB3 := Lib.hid ((pw_below_drewN HB.out q2).trans (hb3.mono (pw_below_drewN HB.out q2).size)); have HR3 := Lib.hid (Kd.R_below (Kd.R_drewN HO.out q2) hb3); clear hb3) | (go_at_call 17; (with_reducible refine (upper_call k hlt _).mono ?_); rintro e w4 ⟨rfl, hb4⟩; have HB4 := Lib.hid (HB3.out.trans (hb4.mono HB3.out.size)); have HR4 := Lib.hid (Kd.R_below HR3.out hb4); have HS4 : Hid (w.heap.size ≤ w4.heap.size) := Lib.hid HB4.out.size; clear hb4) | ((with_reducible refine gate_builtin (b := .append) (xs := #[.tmp 34, .tmp 39]) rfl ?_); at_builtin; refine Kd.R_append Kd.string (w0 := w) w.heap.size rfl (.tmp 34) (.tmp 39) 40 9 (.string ⟨#[]⟩) 16 rfl Tryd.underlying40 info9 rfl (by decide) (by decide) (.slice A5 (pieces m k).length c5) (pieces m k) ⟨(48 :: 120 :: Lib.toUpperA (hexL k)).toArray⟩ [.string ⟨(48 :: 120 :: Lib.toUpperA (hexL k)).toArray⟩] (fun _ => True) (fun _ => False) rfl rfl rfl (fun _ hk => hk.elim) (fun _ _ => trivial) HR4.out HB4.out HS4.out (by omega) ?_; intro v6 w6 ho6 hb6 hg6 hn6; have HO6 := Lib.hid ho6; have HB6 := Lib.hid hb6; clear ho6 hb6 hg6 hn6))
            go_roundg (64 - (k + 1))
            case rel => exact ⟨k + 1, by omega, rfl, by rw [HP.out, HPK.out]; exact HO6.out, HB6.out⟩
            case measure => omega
      · have hk64 : k = 64 := by omega
        have b0 : (bitv k != 0) = false := by rw [hk64]; decide
        have b0' : (bitv k == 0) = true := by rw [hk64]; decide
        have HK64 := Lib.hid hk64
        have hj := join_call m k hk64 _ wr _ _ HO.out (by rw [hk64]; exact join_len m) (by omega)
        have HJ := Lib.hid hj
        clear hk64 hj
        go_wp2_with (go_at_call 19; (with_reducible refine HJ.out.mono ?_); rintro e w9 ⟨rfl, hb9⟩; have HB9 := Lib.hid (HB.out.trans (hb9.mono HB.out.size)); clear hb9)
        go_ret
        exact ⟨by rw [HK64.out]; rfl, HB9.out⟩
end Go.Proofs.YtiaokohnibkmbaaDoor.Texts
