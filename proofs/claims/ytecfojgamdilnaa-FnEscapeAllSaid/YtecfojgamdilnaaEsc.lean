import Derived.Test.YtecfojgamdilnaaEscPure
import Derived.Test.YtecfojgamdilnaaPlain
namespace Go.Proofs.Ytecfojgamdilnaa.Esc
open Go.RowKit Go.Proofs.YtecfojgamdilnaaW.PrintWords Go.Proofs.YtecfojgamdilnaaW.PrintLast Go.Proofs.YtecfojgamdilnaaW.PrintMore Go.Proofs.Ytecfojgamdilnaa.Plain Go.Proofs.Ytecfojgamdilnaa.PFnEscapeAll
set_option maxHeartbeats 4000000 in
set_option maxRecDepth 100000 in
theorem law_any (s : ByteArray) (w : World) :
    Calls Try.prog 9 #[.string s] w fun e w' => e = .returned (.bool true) ∧ Below w.heap.size w w' := by
  by_cases hbig : s.size > 5000
  · by_cases hhuge : s.size > 2147483647
    · have z1 : decide ((2147483647 : Int) < (s.size : Int)) = true := decide_eq_true (by omega)
      go_enter Try.func9, Try.ntmps9
      go_wp2
      go_ret
      exact ⟨rfl, Below.refl _ _⟩
    · have z1 : decide ((2147483647 : Int) < (s.size : Int)) = false := decide_eq_false (by omega)
      have z2 : decide ((5000 : Int) < (s.size : Int)) = true := decide_eq_true (by omega)
      go_enter Try.func9, Try.ntmps9
      go_wp2
      go_ret
      exact ⟨rfl, Below.refl _ _⟩
  have z1 : decide ((2147483647 : Int) < (s.size : Int)) = false := decide_eq_false (by omega)
  have z2 : decide ((5000 : Int) < (s.size : Int)) = false := decide_eq_false (by omega)
  obtain ⟨E, hE⟩ : ∃ E : ByteArray, E = ⟨(rest_URLPathEscapeAll.esc s.data.toList).toArray⟩ := ⟨_, rfl⟩
  have h18 : impl_EscapePathAll.f s = some E := by
    unfold impl_EscapePathAll.f rest_URLPathEscapeAll.f; rw [if_pos (by omega)]; simp [hE]
  obtain ⟨k, h19⟩ : ∃ k, spec_EscapeAll.f k s = some E := by rw [hE]; exact spec_is s (by omega)
  have h20 : impl_EscapePathAll.f ⟨#[32]⟩ = some ⟨#[37, 50, 48]⟩ := by decide +kernel
  have H18 := Lib.hid h18; have H19 := Lib.hid h19; have H20 := Lib.hid h20; have HE := Lib.hid hE
  clear h18 h19 h20 hE
  go_enter Try.func9, Try.ntmps9
  go_wp2_with (first
    | (go_at_call 18; (with_reducible refine (impl_EscapePathAll.calls _ _ _ H18.out).mono ?_); rintro e w1 ⟨rfl, hb1⟩)
    | (go_at_call 19; (with_reducible refine (spec_EscapeAll.calls _ _ _ _ H19.out).mono ?_); rintro e w2 ⟨rfl, hb2⟩)
    | (go_at_call 18; (with_reducible refine (impl_EscapePathAll.calls _ _ _ H20.out).mono ?_); rintro e w3 ⟨rfl, hb3⟩; have HB := Lib.hid ((hb1.trans (hb2.mono hb1.size)).trans (hb3.mono (Nat.le_trans hb1.size hb2.size))); clear hb1 hb2 hb3)
    | ((with_reducible refine gate_dst (N := 26) rfl ?_); refine Kd.R_lit (Kd.int .u8) _ 5 ?hg (N := 26) ?hd (xs := ([] : List Int)) (inner := []) (ok := fun _ => True) (okp := fun _ => True) ?hr ?hp (fun _ hk => hk) trivial (Below.refl _ _) (Nat.le_refl _) (by simp) ?_; (case hd => rfl); (case hg => rfl); (case hr => first
    | (go_simp; done)
    | (go_simp; rfl)); (case hp => exact (Reps.none _ _)); intro v4 w4 ho3 hb hg_ hnew_; clear hg_ hnew_; have HO := Lib.hid (Kd.R_lower ho3 HB.out.size); have HB4 := Lib.hid (HB.out.trans (hb.mono HB.out.size)); clear HB hb ho3))
  have hEs : E.size ≤ 15000 := by
    rw [HE.out]; have := rest_URLPathEscapeAll.esc_len s.data.toList; rw [size_data] at this
    show (List.toArray _).size ≤ _
    simp; omega
  go_loopw [5, 4] (fun v5 v4 w' => ∃ j : Nat, j ≤ s.size ∧ v5 = .int .i64 ((rest_URLPathEscapeAll.esc (s.data.toList.take j)).length : Nat) ∧ Hid (Kd.R (Kd.int .u8) 5 w' w.heap.size (fun _ => True) v4 (ints (s.data.toList.take j))) ∧ Hid (Below w.heap.size w w')) (fun v5 _ _ => 20000 - (intOf v5).toNat)
  case atStart => exact ⟨0, by omega, rfl, HO, HB4⟩
  case round =>
    clear HO HB4
    obtain ⟨j, hj, rfl, HO, HB⟩ := hrel
    by_cases hlt : j < s.size
    · obtain ⟨x, hx⟩ : ∃ x : UInt8, (s[j]'hlt) = x := ⟨_, rfl⟩
      have hts := rest_URLPathEscapeAll.take_snoc s j hlt
      rw [hx] at hts
      have HTS := Lib.hid hts; clear hts
      by_cases hp : rest_URLPathEscapeAll.plain (x.toNat : Int) = true
      · obtain ⟨hel, h1, h2⟩ := at_plain s E HE.out j hlt (by rw [hx]; exact hp)
        rw [hx] at h1
        generalize (rest_URLPathEscapeAll.esc (s.data.toList.take j)).length = e at *
        have H2 := Lib.hid h2; clear h2
        have b1 : decide ((e : Int) < (E.size : Int)) = true := decide_eq_true (by omega)
        have hne : ((x.toNat : Int) == 37) = false := by
          have := of_decide_eq_true hp; simp; omega
        have HJ := Lib.hid hx; clear hx hp
        go_upto_region 13 with (fail)
        generalize hc : (x.toNat : Int) = c at *
        have HC := Lib.hid hc; clear hc h1
        have hlen : ((ints (s.data.toList.take j)).length + 1) * 1 ≤ 140737488355328 := by simp [ints]; omega
        go_wp2_with (first | ((with_reducible refine gate_builtin (b := .append) (xs := #[.tmp 38, .tmp 40]) rfl ?_); at_builtin; refine Kd.R_append (Kd.int .u8) (w0 := w) w.heap.size rfl (.tmp 38) (.tmp 40) 30 5 (.int .u8 0) 1 rfl Try.underlying30 info5 rfl (by decide) (by omega) u4 (ints (s.data.toList.take j)) c [.int .u8 c] (fun _ => True) (fun _ => False) rfl rfl ?aP (fun _ hk => hk.elim) ?aF ?aO ?aB ?aS ?aL ?_; (case aP => exact rfl); (case aB => exact HB.out); (case aF => exact (fun _ _ => trivial)); (case aO => exact HO.out); (case aS => exact HB.out.size); (case aL => exact hlen); intro v5 w5 ho hb hg hat; have HP := Lib.hid ho; have HQ := Lib.hid hb; clear ho hb hg hat))
        go_roundw
        case rel =>
          refine ⟨j + 1, by omega, by rw [H2.out]; first | rfl | go_num, ?_, HQ⟩
          rw [HTS.out, ints_append]
          have : ints [x] = [c] := by simp [ints, HC.out]
          rw [this]; exact HP
        case measure => simp [intOf]; omega
      · obtain ⟨hel, h1, h3, h4, h2⟩ := at_hex s E HE.out j hlt (by rw [hx]; exact hp)
        rw [hx] at h4
        generalize (rest_URLPathEscapeAll.esc (s.data.toList.take j)).length = e at *
        have hx16 : x.toNat / 16 < 16 := by have := x.toNat_lt; omega
        have g1 := hex_val ⟨x.toNat / 16, hx16⟩
        have g2 := hex_val ⟨x.toNat % 16, by omega⟩
        generalize hy1 : rest_URLPathEscapeAll.hex (x.toNat / 16) = y1 at *
        generalize hy2 : rest_URLPathEscapeAll.hex (x.toNat % 16) = y2 at *
        have G1 := Lib.hid g1; have G2 := Lib.hid g2
        have H2 := Lib.hid h2; clear h2 g1 g2 hy1 hy2
        have b1 : decide ((e : Int) < (E.size : Int)) = true := decide_eq_true (by omega)
        have b2 : decide ((E.size : Int) ≤ (e : Int) + 2) = false := decide_eq_false (by omega)
        have b3 : (e : Int) + 3 ≤ (E.size : Int) := by omega
        have hsl : ∀ W, (Instr.slice 9 (.string E) (some (.int .i64 ((e : Int) + 1))) (some (.int .i64 ((e : Int) + 3))) none).run Try.prog W = .ok (.string ⟨#[y1, y2]⟩) W := by
          intro W
          have h := run_slice_string (P := Try.prog) W 9 E .i64 .i64 ((e : Int) + 1) ((e : Int) + 3) Try.underlying9 (by omega) (by omega) (by omega)
          rw [h, show ((e : Int) + 1).toNat = e + 1 by omega, show ((e : Int) + 3).toNat = e + 3 by omega, h4]
        clear h4 h3
        have hcv := fun (W : World) (z : ByteArray) => Lib.run_convert_string_bytes (P := Try.prog) W 9 30 5 z Try.underlying9 Try.underlying30 Try.underlying5
        have HJ := Lib.hid hx; clear hx hp
        go_upto_region 13 with (fail)
        have h37 : ((37 : UInt8).toNat : Int) = 37 := rfl
        go_wp2
        have c0 : (Lib.bytesWorld wr 5 ⟨#[y1, y2]⟩).cell? ⟨wr.heap.size, 0, none⟩ = some (.int .u8 (y1.toNat : Int)) := Lib.bytesWorld_cell wr 5 ⟨#[y1, y2]⟩ 0 (by show 0 < 2; omega)
        have c1 : (Lib.bytesWorld wr 5 ⟨#[y1, y2]⟩).cell? ⟨wr.heap.size, 1, none⟩ = some (.int .u8 (y2.toNat : Int)) := Lib.bytesWorld_cell wr 5 ⟨#[y1, y2]⟩ 1 (by show 1 < 2; omega)
        have hbW : Below wr.heap.size wr (Lib.bytesWorld wr 5 ⟨#[y1, y2]⟩) := ⟨rfl, rfl, rfl, by rw [Lib.bytesWorld_size]; omega, fun k hk => Lib.bytesWorld_at_old wr 5 _ k hk⟩
        have HO2 := Lib.hid (Kd.R_below HO.out hbW)
        have HB2 := Lib.hid (HB.out.trans (hbW.mono HB.out.size))
        clear hbW hsl hcv HO HB
        generalize Lib.bytesWorld wr 5 ⟨#[y1, y2]⟩ = wB at *
        obtain ⟨a1, ha1⟩ : ∃ a : Int, ((x.toNat / 16 : Nat) : Int) = a := ⟨_, rfl⟩
        obtain ⟨a2, ha2⟩ : ∃ a : Int, ((x.toNat % 16 : Nat) : Int) = a := ⟨_, rfl⟩
        have hax : (x.toNat : Int) = 16 * a1 + a2 := by omega
        have ha1b : 0 ≤ a1 ∧ a1 ≤ 15 := by omega
        have ha2b : 0 ≤ a2 ∧ a2 ≤ 15 := by omega
        have e1 : (a1 < 10 → (y1.toNat : Int) = 48 + a1) ∧ (10 ≤ a1 → (y1.toNat : Int) = 55 + a1) := by
          have := G1.out; simp only [ha1] at this; exact ⟨fun h => this.1 (by omega), fun h => this.2 (by omega)⟩
        have e2 : (a2 < 10 → (y2.toNat : Int) = 48 + a2) ∧ (10 ≤ a2 → (y2.toNat : Int) = 55 + a2) := by
          have := G2.out; simp only [ha2] at this; exact ⟨fun h => this.1 (by omega), fun h => this.2 (by omega)⟩
        have E1 := Lib.hid e1; have E2 := Lib.hid e2; have HAX := Lib.hid hax; have HA1 := Lib.hid ha1b; have HA2 := Lib.hid ha2b
        clear e1 e2 hax ha1b ha2b ha1 ha2 G1 G2 h1
        generalize (y1.toNat : Int) = d1 at *
        generalize (y2.toNat : Int) = d2 at *
        go_loopw [55, 7] (fun v55 v7 w' => w' = wB ∧ ∃ (m n : Int), v55 = .int .i64 m ∧ v7 = .int .i64 n ∧ ((m = 0 ∧ n = 0) ∨ (m = 1 ∧ n = a1) ∨ (m = 2 ∧ n = 16 * a1 + a2))) (fun v55 _ _ => 2 - (intOf v55).toNat)
        case atStart => exact ⟨rfl, 0, 0, rfl, rfl, .inl ⟨rfl, rfl⟩⟩
        case round =>
          obtain ⟨rfl, m, n, rfl, rfl, hmn⟩ := hrel
          rcases hmn with ⟨rfl, rfl⟩ | ⟨rfl, rfl⟩ | ⟨rfl, rfl⟩
          · by_cases hd : a1 < 10
            · have f1 : decide ((48 : Int) ≤ d1) = true := decide_eq_true (by have := E1.out.1 hd; have := HA1.out; omega)
              have f2 : decide (d1 ≤ (57 : Int)) = true := decide_eq_true (by have := E1.out.1 hd; omega)
              go_wp2
              go_roundw
              case rel => exact ⟨by first | rfl | trivial, 1, a1, rfl, by have := E1.out.1 hd; have := HA1.out; have := HA2.out; go_num, .inr (.inl ⟨rfl, rfl⟩)⟩
              case measure => simp [intOf]
            · have f1 : decide ((48 : Int) ≤ d1) = true := decide_eq_true (by have := E1.out.2 (by omega); have := HA1.out; omega)
              have f2 : decide (d1 ≤ (57 : Int)) = false := decide_eq_false (by have := E1.out.2 (by omega); omega)
              have f3 : decide ((65 : Int) ≤ d1) = true := decide_eq_true (by have := E1.out.2 (by omega); have := HA1.out; omega)
              have f4 : decide (d1 ≤ (70 : Int)) = true := decide_eq_true (by have := E1.out.2 (by omega); have := HA1.out; omega)
              go_wp2
              go_roundw
              case rel => exact ⟨by first | rfl | trivial, 1, a1, rfl, by have := E1.out.2 (by omega); have := HA1.out; have := HA2.out; go_num, .inr (.inl ⟨rfl, rfl⟩)⟩
              case measure => simp [intOf]
          · by_cases hd : a2 < 10
            · have f1 : decide ((48 : Int) ≤ d2) = true := decide_eq_true (by have := E2.out.1 hd; have := HA2.out; omega)
              have f2 : decide (d2 ≤ (57 : Int)) = true := decide_eq_true (by have := E2.out.1 hd; omega)
              go_wp2
              go_roundw
              case rel => exact ⟨by first | rfl | trivial, 2, (16 * n + a2), rfl, by have := E2.out.1 hd; have := HA1.out; have := HA2.out; (congr 1; unfold wrap64; omega), .inr (.inr ⟨rfl, rfl⟩)⟩
              case measure => simp [intOf]
            · have f1 : decide ((48 : Int) ≤ d2) = true := decide_eq_true (by have := E2.out.2 (by omega); have := HA2.out; omega)
              have f2 : decide (d2 ≤ (57 : Int)) = false := decide_eq_false (by have := E2.out.2 (by omega); omega)
              have f3 : decide ((65 : Int) ≤ d2) = true := decide_eq_true (by have := E2.out.2 (by omega); have := HA2.out; omega)
              have f4 : decide (d2 ≤ (70 : Int)) = true := decide_eq_true (by have := E2.out.2 (by omega); have := HA2.out; omega)
              go_wp2
              go_roundw
              case rel => exact ⟨by first | rfl | trivial, 2, (16 * n + a2), rfl, by have := E2.out.2 (by omega); have := HA1.out; have := HA2.out; (congr 1; unfold wrap64; omega), .inr (.inr ⟨rfl, rfl⟩)⟩
              case measure => simp [intOf]
          · have hlen : ((ints (s.data.toList.take j)).length + 1) * 1 ≤ 140737488355328 := by simp [ints]; omega
            have hw8 : IntKind.u8.wrap (16 * a1 + a2) = 16 * a1 + a2 := by have := HA1.out; have := HA2.out; simp [IntKind.wrap, IntKind.signed, IntKind.bits]; omega
            go_wp2_with (first | ((with_reducible refine gate_builtin (b := .append) (xs := #[.tmp 87, .tmp 90]) rfl ?_); at_builtin; refine Kd.R_append (Kd.int .u8) (w0 := w) w.heap.size rfl (.tmp 87) (.tmp 90) 30 5 (.int .u8 0) 1 rfl Try.underlying30 info5 rfl (by decide) (by omega) u4 (ints (s.data.toList.take j)) (16 * a1 + a2) [.int .u8 (16 * a1 + a2)] (fun _ => True) (fun _ => False) rfl rfl ?aP (fun _ hk => hk.elim) ?aF ?aO ?aB ?aS ?aL ?_; (case aP => exact rfl); (case aB => exact HB2.out); (case aF => exact (fun _ _ => trivial)); (case aO => exact HO2.out); (case aS => exact HB2.out.size); (case aL => exact hlen); intro v5 w5 ho hb hg hat; have HP := Lib.hid ho; have HQ := Lib.hid hb; clear ho hb hg hat))
            go_roundw
            case rel =>
              refine ⟨j + 1, by omega, by rw [H2.out]; first | rfl | go_num, ?_, HQ⟩
              rw [HTS.out, ints_append]
              have : ints [x] = [16 * a1 + a2] := by simp [ints, HAX.out]
              rw [this]; exact HP
            case measure => simp [intOf]; omega
    · obtain rfl : j = s.size := by omega
      have hfull : s.data.toList.take s.size = s.data.toList := List.take_of_length_le (Nat.le_refl _)
      rw [hfull] at HO ⊢
      have hlen : (rest_URLPathEscapeAll.esc s.data.toList).length = E.size := by
        rw [HE.out]; show _ = (List.toArray _).size; simp
      rw [hlen]
      clear hfull hlen
      generalize he : E.size = e at *
      have b1 : decide ((e : Int) < (e : Int)) = false := decide_eq_false (by omega)
      have hcs : ∀ (W : World) (A : Option Addr) (n c : Nat), (Kd.int .u8).C W A n (ints s.data.toList) → (convert 30 9 (.slice A n c)).run Try.prog W = .ok (.string (strOfNums (ints s.data.toList))) W := fun W A n c h => Kd.C_string Try.underlying30 Try.underlying5 Try.underlying9 h
      obtain ⟨A, cc, rfl, hcc, hC⟩ := Kd.R_reads HO.out
      have hcs1 := hcs _ _ _ cc hC
      rw [nums_ints] at hcs1
      have hS : (⟨s.data.toList.toArray⟩ : ByteArray) = s := by apply data_ext; simp
      rw [hS] at hcs1
      clear hcs hC hS
      go_wp2
      go_ret
      exact ⟨by simp, HB.out⟩
end Go.Proofs.Ytecfojgamdilnaa.Esc
