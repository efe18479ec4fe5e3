import Derived.Test.YtiaokohnibkmbaaDoorSpl
import Derived.Test.YtiaokohnibkmbaaDoorShelf
import Derived.Lib.Space
import Derived.Lib.LaidTab
namespace Go.Proofs.YtiaokohnibkmbaaDoor.Mset
open Go Go.RowKit Go.Proofs.YtiaokohnibkmbaaDoor.Fr
open Go.Proofs.YtiaokohnibkmbaaDoor.Enc (piece)
open Go.Proofs.YtiaokohnibkmbaaDoor.Spl (pieces)
open Go.Proofs.YtiaokohnibkmbaaDoor.Sym Go.Proofs.YtiaokohnibkmbaaDoorW.PrintWords Go.Proofs.YtiaokohnibkmbaaDoorW.PrintLast Go.Proofs.YtiaokohnibkmbaaDoorW.PrintMore
set_option linter.unusedVariables false
set_option linter.unusedSimpArgs false
/-! ### a mask read from a text of names -/
/-- What the package's variables hold. -/
structure Glob (w : World) : Prop where
  space : Lib.TabIs Tryd.prog w "strings.asciiSpace" .u8 Lib.asciiSpaceTab
theorem ret_two {P : Program} {N : Nat} {l : Slots} {a : Act} {w : World} {v u : Value} {fn : Func} {R : Ending → World → Prop} {k j : Nat} (h : Fm N l a) (hr : fn.results = #[.tmp k, .tmp j]) (hk : lk l k = some v) (hj : lk l j = some u) (hR : R (.returned (.tuple #[v, u])) w) : bodyPost P fn R .ret a w := by
  refine ⟨h.defers, .tuple #[v, u], ?_, hR⟩
  unfold results
  rw [hr]
  have h1 : a.tmps.getD k undef = v := h.slot k v hk
  have h2 : a.tmps.getD j undef = u := h.slot j u hj
  rw [Array.getD_eq_getD_getElem?] at h1 h2
  simp [h1, h2]
/-! #### the names of bits -/
def nameBits (s : ByteArray) : Option Int :=
  if (s.toList == (⟨#[82, 97, 119]⟩ : ByteArray).toList) = true then some 1 else
  if (s.toList == (⟨#[78, 111, 110, 101]⟩ : ByteArray).toList) = true then some 0 else
  if (s.toList == (⟨#[83, 108, 97, 115, 104]⟩ : ByteArray).toList) = true then some 2 else
  if (s.toList == (⟨#[76, 116, 71, 116]⟩ : ByteArray).toList) = true then some 4 else
  if (s.toList == (⟨#[83, 113, 117, 97, 114, 101, 66, 114, 97, 99, 107, 101, 116]⟩ : ByteArray).toList) = true then some 67108864 else
  if (s.toList == (⟨#[83, 101, 109, 105, 99, 111, 108, 111, 110]⟩ : ByteArray).toList) = true then some 134217728 else
  if (s.toList == (⟨#[69, 120, 99, 108, 97, 109, 97, 116, 105, 111, 110]⟩ : ByteArray).toList) = true then some 268435456 else
  if (s.toList == (⟨#[68, 111, 117, 98, 108, 101, 81, 117, 111, 116, 101]⟩ : ByteArray).toList) = true then some 8 else
  if (s.toList == (⟨#[83, 105, 110, 103, 108, 101, 81, 117, 111, 116, 101]⟩ : ByteArray).toList) = true then some 16 else
  if (s.toList == (⟨#[66, 97, 99, 107, 81, 117, 111, 116, 101]⟩ : ByteArray).toList) = true then some 32 else
  if (s.toList == (⟨#[68, 111, 108, 108, 97, 114]⟩ : ByteArray).toList) = true then some 64 else
  if (s.toList == (⟨#[67, 111, 108, 111, 110]⟩ : ByteArray).toList) = true then some 128 else
  if (s.toList == (⟨#[81, 117, 101, 115, 116, 105, 111, 110]⟩ : ByteArray).toList) = true then some 256 else
  if (s.toList == (⟨#[65, 115, 116, 101, 114, 105, 115, 107]⟩ : ByteArray).toList) = true then some 512 else
  if (s.toList == (⟨#[80, 105, 112, 101]⟩ : ByteArray).toList) = true then some 1024 else
  if (s.toList == (⟨#[72, 97, 115, 104]⟩ : ByteArray).toList) = true then some 2048 else
  if (s.toList == (⟨#[80, 101, 114, 99, 101, 110, 116]⟩ : ByteArray).toList) = true then some 4096 else
  if (s.toList == (⟨#[66, 97, 99, 107, 83, 108, 97, 115, 104]⟩ : ByteArray).toList) = true then some 8192 else
  if (s.toList == (⟨#[67, 114, 76, 102]⟩ : ByteArray).toList) = true then some 16384 else
  if (s.toList == (⟨#[68, 101, 108]⟩ : ByteArray).toList) = true then some 32768 else
  if (s.toList == (⟨#[67, 116, 108]⟩ : ByteArray).toList) = true then some 65536 else
  if (s.toList == (⟨#[76, 101, 102, 116, 83, 112, 97, 99, 101]⟩ : ByteArray).toList) = true then some 131072 else
  if (s.toList == (⟨#[76, 101, 102, 116, 80, 101, 114, 105, 111, 100]⟩ : ByteArray).toList) = true then some 262144 else
  if (s.toList == (⟨#[76, 101, 102, 116, 84, 105, 108, 100, 101]⟩ : ByteArray).toList) = true then some 524288 else
  if (s.toList == (⟨#[76, 101, 102, 116, 67, 114, 76, 102, 72, 116, 86, 116]⟩ : ByteArray).toList) = true then some 1048576 else
  if (s.toList == (⟨#[82, 105, 103, 104, 116, 83, 112, 97, 99, 101]⟩ : ByteArray).toList) = true then some 2097152 else
  if (s.toList == (⟨#[82, 105, 103, 104, 116, 80, 101, 114, 105, 111, 100]⟩ : ByteArray).toList) = true then some 4194304 else
  if (s.toList == (⟨#[82, 105, 103, 104, 116, 67, 114, 76, 102, 72, 116, 86, 116]⟩ : ByteArray).toList) = true then some 8388608 else
  if (s.toList == (⟨#[73, 110, 118, 97, 108, 105, 100, 85, 116, 102, 56]⟩ : ByteArray).toList) = true then some 16777216 else
  if (s.toList == (⟨#[68, 111, 116]⟩ : ByteArray).toList) = true then some 33554432 else
  none
def Good (s : ByteArray) (w : World) (e : Ending) (w' : World) : Prop := e = .returned (.tuple #[.int .u64 ((nameBits s).getD 0), .bool (nameBits s).isSome]) ∧ w' = w
/-- One test of a name, and its answer. -/
theorem link {R : Ending → World → Prop} {Q : Exit → Act → World → Prop} {rest : Code} {a : Act} {w : World} {l : Slots} {s lit : ByteArray} {id id2 d t : Nat} {v : Int} {p p' p1 p2 : String} {f0 f1 f2 f3 : Array Edge} (h : Fm 65 l a) (h4 : lk l 4 = some (.string s)) (hd : d < 65) (ht : t < 65) (hne : Nat.beq d t = false) (hn4 : Nat.beq d 4 = false ∧ Nat.beq t 4 = false)
    (hQ : ∀ a', (bodyPost Tryd.prog Tryd.f22 R .ret a' w) → Q .ret a' w)
    (hpos : (s.toList == lit.toList) = true → R (.returned (.tuple #[.int .u64 v, .bool true])) w)
    (hneg : (s.toList == lit.toList) = false → ∀ a', Fm 65 [(4, .string s)] a' → rest.wp Tryd.prog Q a' w) :
    (Code.seq (Code.region id #[{ dst := some d, op := .binOp .eql 9 (.tmp 4) (.const (.string lit)) 9, type := 4, pos := p, after := f0, guard := none }, { dst := some t, op := .assign (.tmp d), type := 4, pos := p', after := f1, guard := none }] false)
      (Code.cond (.tmp t) (Code.seq (Code.region id2 #[{ dst := some 2, op := .assign (.const (.int .u64 v)), type := 38, pos := p1, after := f2, guard := none }, { dst := some 3, op := .assign (.const (.bool true)), type := 4, pos := p2, after := f3, guard := none }] false) Code.ret) rest)).wp Tryd.prog Q a w := by
  have hlk : ∀ b : Bool, lk ((t, .bool b) :: (d, .bool b) :: l) t = some (.bool b) := fun b => by simp [lk]
  have hld : ∀ b : Bool, lk ((d, .bool b) :: l) d = some (.bool b) := fun b => by simp [lk]
  have hl4 : ∀ b : Bool, lk ((t, .bool b) :: (d, .bool b) :: l) 4 = some (.string s) := fun b => by simp only [lk, hn4.1, hn4.2, cond_false]; exact h4
  refine wp_seq ?_
  refine wp_region_lit ?_
  refine Sym.step h rfl hd (wanted_none rfl) (x_eqls Tryd.underlying9 h4 rfl) fun a h => ?_
  refine Sym.step h rfl ht (wanted_none rfl) (x_assign (hld _)) fun a h => ?_
  refine wpList_nil ?_
  cases hb : (s.toList == lit.toList) with
  | true =>
    rw [hb] at h
    refine wp_cond_true (h.slot t _ (hlk true)) ?_
    refine wp_seq ?_
    refine wp_region_lit ?_
    refine Sym.step h rfl (by decide) (wanted_none rfl) (x_assign rfl) fun a h => ?_
    refine Sym.step h rfl (by decide) (wanted_none rfl) (x_assign rfl) fun a h => ?_
    refine wpList_nil ?_
    refine wp_ret ?_
    exact hQ _ (ret_two h rfl rfl rfl (hpos hb))
  | false =>
    rw [hb] at h
    refine wp_cond_false (h.slot t _ (hlk false)) ?_
    exact hneg hb _ ⟨h.size, h.defers, fun x u hx => by
      have : x = 4 ∧ u = .string s := by
        unfold lk at hx
        cases he : Nat.beq 4 x with
        | true => rw [he] at hx; exact ⟨(Nat.eq_of_beq_eq_true he).symm, (Option.some.inj hx).symm⟩
        | false => rw [he] at hx; exact absurd hx (by simp [lk])
      rw [this.1, this.2]
      exact h.slot 4 _ (hl4 false)⟩

set_option maxRecDepth 100000 in
set_option maxHeartbeats 4000000 in
theorem name_any (s : ByteArray) (w : World) : Calls Tryd.prog 22 #[.string s] w (Good s w) := by
  refine calls_of_wp Tryd.func22 rfl ?_
  have h : Fm 65 [(0, .string s)] ⟨#[Value.string s] ++ Array.replicate (Tryd.f22.ntmps - (#[Value.string s] : Array Value).size) undef, []⟩ := Fm.start _ _ _ (by kernel_rfl) lk1
  generalize (⟨#[Value.string s] ++ Array.replicate (Tryd.f22.ntmps - (#[Value.string s] : Array Value).size) undef, []⟩ : Act) = a at h
  refine wp_seq ?_
  refine wp_region_lit ?_
  refine Sym.step h rfl (by decide) (wanted_none rfl) (x_assign rfl) fun a h => ?_
  refine Sym.step h rfl (by decide) (wanted_none rfl) (x_assign rfl) fun a h => ?_
  refine wpList_nil ?_
  show Code.wp _ _ _ _ _
  refine wp_seq ?_
  refine wp_seq ?_
  refine wp_region_lit ?_
  refine Sym.step h rfl (by decide) (wanted_none rfl) (x_move rfl) fun a h => ?_
  refine wpList_nil ?_
  show Code.wp _ _ _ _ _
  refine wp_block ?_
  refine link (R := Good s w) (s := s) h rfl (by decide) (by decide) rfl ⟨rfl, rfl⟩ (fun _ hr => hr) (fun hp => ⟨?_, rfl⟩) fun n0 a h => ?_
  · unfold nameBits
    rw [if_pos hp]
    rfl
  replace n0 := Bool.eq_false_iff.1 n0
  refine link (R := Good s w) (s := s) h rfl (by decide) (by decide) rfl ⟨rfl, rfl⟩ (fun _ hr => hr) (fun hp => ⟨?_, rfl⟩) fun n1 a h => ?_
  · unfold nameBits
    rw [if_neg n0, if_pos hp]
    rfl
  replace n1 := Bool.eq_false_iff.1 n1
  refine link (R := Good s w) (s := s) h rfl (by decide) (by decide) rfl ⟨rfl, rfl⟩ (fun _ hr => hr) (fun hp => ⟨?_, rfl⟩) fun n2 a h => ?_
  · unfold nameBits
    rw [if_neg n0, if_neg n1, if_pos hp]
    rfl
  replace n2 := Bool.eq_false_iff.1 n2
  refine link (R := Good s w) (s := s) h rfl (by decide) (by decide) rfl ⟨rfl, rfl⟩ (fun _ hr => hr) (fun hp => ⟨?_, rfl⟩) fun n3 a h => ?_
  · unfold nameBits
    rw [if_neg n0, if_neg n1, if_neg n2, if_pos hp]
    rfl
  replace n3 := Bool.eq_false_iff.1 n3
  refine link (R := Good s w) (s := s) h rfl (by decide) (by decide) rfl ⟨rfl, rfl⟩ (fun _ hr => hr) (fun hp => ⟨?_, rfl⟩) fun n4 a h => ?_
  · unfold nameBits
    rw [if_neg n0, if_neg n1, if_neg n2, if_neg n3, if_pos hp]
    rfl
  replace n4 := Bool.eq_false_iff.1 n4
  refine link (R := Good s w) (s := s) h rfl (by decide) (by decide) rfl ⟨rfl, rfl⟩ (fun _ hr => hr) (fun hp => ⟨?_, rfl⟩) fun n5 a h => ?_
  · unfold nameBits
    rw [if_neg n0, if_neg n1, if_neg n2, if_neg n3, if_neg n4, if_pos hp]
    rfl
  replace n5 := Bool.eq_false_iff.1 n5
  refine link (R := Good s w) (s := s) h rfl (by decide) (by decide) rfl ⟨rfl, rfl⟩ (fun _ hr => hr) (fun hp => ⟨?_, rfl⟩) fun n6 a h => ?_
  · unfold nameBits
    rw [if_neg n0, if_neg n1, if_neg n2, if_neg n3, if_neg n4, if_neg n5, if_pos hp]
    rfl
  replace n6 := Bool.eq_false_iff.1 n6
  refine link (R := Good s w) (s := s) h rfl (by decide) (by decide) rfl ⟨rfl, rfl⟩ (fun _ hr => hr) (fun hp => ⟨?_, rfl⟩) fun n7 a h => ?_
  · unfold nameBits
    rw [if_neg n0, if_neg n1, if_neg n2, if_neg n3, if_neg n4, if_neg n5, if_neg n6, if_pos hp]
    rfl
  replace n7 := Bool.eq_false_iff.1 n7
  refine link (R := Good s w) (s := s) h rfl (by decide) (by decide) rfl ⟨rfl, rfl⟩ (fun _ hr => hr) (fun hp => ⟨?_, rfl⟩) fun n8 a h => ?_
  · unfold nameBits
    rw [if_neg n0, if_neg n1, if_neg n2, if_neg n3, if_neg n4, if_neg n5, if_neg n6, if_neg n7, if_pos hp]
    rfl
  replace n8 := Bool.eq_false_iff.1 n8
  refine link (R := Good s w) (s := s) h rfl (by decide) (by decide) rfl ⟨rfl, rfl⟩ (fun _ hr => hr) (fun hp => ⟨?_, rfl⟩) fun n9 a h => ?_
  · unfold nameBits
    rw [if_neg n0, if_neg n1, if_neg n2, if_neg n3, if_neg n4, if_neg n5, if_neg n6, if_neg n7, if_neg n8, if_pos hp]
    rfl
  replace n9 := Bool.eq_false_iff.1 n9
  refine link (R := Good s w) (s := s) h rfl (by decide) (by decide) rfl ⟨rfl, rfl⟩ (fun _ hr => hr) (fun hp => ⟨?_, rfl⟩) fun n10 a h => ?_
  · unfold nameBits
    rw [if_neg n0, if_neg n1, if_neg n2, if_neg n3, if_neg n4, if_neg n5, if_neg n6, if_neg n7, if_neg n8, if_neg n9, if_pos hp]
    rfl
  replace n10 := Bool.eq_false_iff.1 n10
  refine link (R := Good s w) (s := s) h rfl (by decide) (by decide) rfl ⟨rfl, rfl⟩ (fun _ hr => hr) (fun hp => ⟨?_, rfl⟩) fun n11 a h => ?_
  · unfold nameBits
    rw [if_neg n0, if_neg n1, if_neg n2, if_neg n3, if_neg n4, if_neg n5, if_neg n6, if_neg n7, if_neg n8, if_neg n9, if_neg n10, if_pos hp]
    rfl
  replace n11 := Bool.eq_false_iff.1 n11
  refine link (R := Good s w) (s := s) h rfl (by decide) (by decide) rfl ⟨rfl, rfl⟩ (fun _ hr => hr) (fun hp => ⟨?_, rfl⟩) fun n12 a h => ?_
  · unfold nameBits
    rw [if_neg n0, if_neg n1, if_neg n2, if_neg n3, if_neg n4, if_neg n5, if_neg n6, if_neg n7, if_neg n8, if_neg n9, if_neg n10, if_neg n11, if_pos hp]
    rfl
  replace n12 := Bool.eq_false_iff.1 n12
  refine link (R := Good s w) (s := s) h rfl (by decide) (by decide) rfl ⟨rfl, rfl⟩ (fun _ hr => hr) (fun hp => ⟨?_, rfl⟩) fun n13 a h => ?_
  · unfold nameBits
    rw [if_neg n0, if_neg n1, if_neg n2, if_neg n3, if_neg n4, if_neg n5, if_neg n6, if_neg n7, if_neg n8, if_neg n9, if_neg n10, if_neg n11, if_neg n12, if_pos hp]
    rfl
  replace n13 := Bool.eq_false_iff.1 n13
  refine link (R := Good s w) (s := s) h rfl (by decide) (by decide) rfl ⟨rfl, rfl⟩ (fun _ hr => hr) (fun hp => ⟨?_, rfl⟩) fun n14 a h => ?_
  · unfold nameBits
    rw [if_neg n0, if_neg n1, if_neg n2, if_neg n3, if_neg n4, if_neg n5, if_neg n6, if_neg n7, if_neg n8, if_neg n9, if_neg n10, if_neg n11, if_neg n12, if_neg n13, if_pos hp]
    rfl
  replace n14 := Bool.eq_false_iff.1 n14
  refine link (R := Good s w) (s := s) h rfl (by decide) (by decide) rfl ⟨rfl, rfl⟩ (fun _ hr => hr) (fun hp => ⟨?_, rfl⟩) fun n15 a h => ?_
  · unfold nameBits
    rw [if_neg n0, if_neg n1, if_neg n2, if_neg n3, if_neg n4, if_neg n5, if_neg n6, if_neg n7, if_neg n8, if_neg n9, if_neg n10, if_neg n11, if_neg n12, if_neg n13, if_neg n14, if_pos hp]
    rfl
  replace n15 := Bool.eq_false_iff.1 n15
  refine link (R := Good s w) (s := s) h rfl (by decide) (by decide) rfl ⟨rfl, rfl⟩ (fun _ hr => hr) (fun hp => ⟨?_, rfl⟩) fun n16 a h => ?_
  · unfold nameBits
    rw [if_neg n0, if_neg n1, if_neg n2, if_neg n3, if_neg n4, if_neg n5, if_neg n6, if_neg n7, if_neg n8, if_neg n9, if_neg n10, if_neg n11, if_neg n12, if_neg n13, if_neg n14, if_neg n15, if_pos hp]
    rfl
  replace n16 := Bool.eq_false_iff.1 n16
  refine link (R := Good s w) (s := s) h rfl (by decide) (by decide) rfl ⟨rfl, rfl⟩ (fun _ hr => hr) (fun hp => ⟨?_, rfl⟩) fun n17 a h => ?_
  · unfold nameBits
    rw [if_neg n0, if_neg n1, if_neg n2, if_neg n3, if_neg n4, if_neg n5, if_neg n6, if_neg n7, if_neg n8, if_neg n9, if_neg n10, if_neg n11, if_neg n12, if_neg n13, if_neg n14, if_neg n15, if_neg n16, if_pos hp]
    rfl
  replace n17 := Bool.eq_false_iff.1 n17
  refine link (R := Good s w) (s := s) h rfl (by decide) (by decide) rfl ⟨rfl, rfl⟩ (fun _ hr => hr) (fun hp => ⟨?_, rfl⟩) fun n18 a h => ?_
  · unfold nameBits
    rw [if_neg n0, if_neg n1, if_neg n2, if_neg n3, if_neg n4, if_neg n5, if_neg n6, if_neg n7, if_neg n8, if_neg n9, if_neg n10, if_neg n11, if_neg n12, if_neg n13, if_neg n14, if_neg n15, if_neg n16, if_neg n17, if_pos hp]
    rfl
  replace n18 := Bool.eq_false_iff.1 n18
  refine link (R := Good s w) (s := s) h rfl (by decide) (by decide) rfl ⟨rfl, rfl⟩ (fun _ hr => hr) (fun hp => ⟨?_, rfl⟩) fun n19 a h => ?_
  · unfold nameBits
    rw [if_neg n0, if_neg n1, if_neg n2, if_neg n3, if_neg n4, if_neg n5, if_neg n6, if_neg n7, if_neg n8, if_neg n9, if_neg n10, if_neg n11, if_neg n12, if_neg n13, if_neg n14, if_neg n15, if_neg n16, if_neg n17, if_neg n18, if_pos hp]
    rfl
  replace n19 := Bool.eq_false_iff.1 n19
  refine link (R := Good s w) (s := s) h rfl (by decide) (by decide) rfl ⟨rfl, rfl⟩ (fun _ hr => hr) (fun hp => ⟨?_, rfl⟩) fun n20 a h => ?_
  · unfold nameBits
    rw [if_neg n0, if_neg n1, if_neg n2, if_neg n3, if_neg n4, if_neg n5, if_neg n6, if_neg n7, if_neg n8, if_neg n9, if_neg n10, if_neg n11, if_neg n12, if_neg n13, if_neg n14, if_neg n15, if_neg n16, if_neg n17, if_neg n18, if_neg n19, if_pos hp]
    rfl
  replace n20 := Bool.eq_false_iff.1 n20
  refine link (R := Good s w) (s := s) h rfl (by decide) (by decide) rfl ⟨rfl, rfl⟩ (fun _ hr => hr) (fun hp => ⟨?_, rfl⟩) fun n21 a h => ?_
  · unfold nameBits
    rw [if_neg n0, if_neg n1, if_neg n2, if_neg n3, if_neg n4, if_neg n5, if_neg n6, if_neg n7, if_neg n8, if_neg n9, if_neg n10, if_neg n11, if_neg n12, if_neg n13, if_neg n14, if_neg n15, if_neg n16, if_neg n17, if_neg n18, if_neg n19, if_neg n20, if_pos hp]
    rfl
  replace n21 := Bool.eq_false_iff.1 n21
  refine link (R := Good s w) (s := s) h rfl (by decide) (by decide) rfl ⟨rfl, rfl⟩ (fun _ hr => hr) (fun hp => ⟨?_, rfl⟩) fun n22 a h => ?_
  · unfold nameBits
    rw [if_neg n0, if_neg n1, if_neg n2, if_neg n3, if_neg n4, if_neg n5, if_neg n6, if_neg n7, if_neg n8, if_neg n9, if_neg n10, if_neg n11, if_neg n12, if_neg n13, if_neg n14, if_neg n15, if_neg n16, if_neg n17, if_neg n18, if_neg n19, if_neg n20, if_neg n21, if_pos hp]
    rfl
  replace n22 := Bool.eq_false_iff.1 n22
  refine link (R := Good s w) (s := s) h rfl (by decide) (by decide) rfl ⟨rfl, rfl⟩ (fun _ hr => hr) (fun hp => ⟨?_, rfl⟩) fun n23 a h => ?_
  · unfold nameBits
    rw [if_neg n0, if_neg n1, if_neg n2, if_neg n3, if_neg n4, if_neg n5, if_neg n6, if_neg n7, if_neg n8, if_neg n9, if_neg n10, if_neg n11, if_neg n12, if_neg n13, if_neg n14, if_neg n15, if_neg n16, if_neg n17, if_neg n18, if_neg n19, if_neg n20, if_neg n21, if_neg n22, if_pos hp]
    rfl
  replace n23 := Bool.eq_false_iff.1 n23
  refine link (R := Good s w) (s := s) h rfl (by decide) (by decide) rfl ⟨rfl, rfl⟩ (fun _ hr => hr) (fun hp => ⟨?_, rfl⟩) fun n24 a h => ?_
  · unfold nameBits
    rw [if_neg n0, if_neg n1, if_neg n2, if_neg n3, if_neg n4, if_neg n5, if_neg n6, if_neg n7, if_neg n8, if_neg n9, if_neg n10, if_neg n11, if_neg n12, if_neg n13, if_neg n14, if_neg n15, if_neg n16, if_neg n17, if_neg n18, if_neg n19, if_neg n20, if_neg n21, if_neg n22, if_neg n23, if_pos hp]
    rfl
  replace n24 := Bool.eq_false_iff.1 n24
  refine link (R := Good s w) (s := s) h rfl (by decide) (by decide) rfl ⟨rfl, rfl⟩ (fun _ hr => hr) (fun hp => ⟨?_, rfl⟩) fun n25 a h => ?_
  · unfold nameBits
    rw [if_neg n0, if_neg n1, if_neg n2, if_neg n3, if_neg n4, if_neg n5, if_neg n6, if_neg n7, if_neg n8, if_neg n9, if_neg n10, if_neg n11, if_neg n12, if_neg n13, if_neg n14, if_neg n15, if_neg n16, if_neg n17, if_neg n18, if_neg n19, if_neg n20, if_neg n21, if_neg n22, if_neg n23, if_neg n24, if_pos hp]
    rfl
  replace n25 := Bool.eq_false_iff.1 n25
  refine link (R := Good s w) (s := s) h rfl (by decide) (by decide) rfl ⟨rfl, rfl⟩ (fun _ hr => hr) (fun hp => ⟨?_, rfl⟩) fun n26 a h => ?_
  · unfold nameBits
    rw [if_neg n0, if_neg n1, if_neg n2, if_neg n3, if_neg n4, if_neg n5, if_neg n6, if_neg n7, if_neg n8, if_neg n9, if_neg n10, if_neg n11, if_neg n12, if_neg n13, if_neg n14, if_neg n15, if_neg n16, if_neg n17, if_neg n18, if_neg n19, if_neg n20, if_neg n21, if_neg n22, if_neg n23, if_neg n24, if_neg n25, if_pos hp]
    rfl
  replace n26 := Bool.eq_false_iff.1 n26
  refine link (R := Good s w) (s := s) h rfl (by decide) (by decide) rfl ⟨rfl, rfl⟩ (fun _ hr => hr) (fun hp => ⟨?_, rfl⟩) fun n27 a h => ?_
  · unfold nameBits
    rw [if_neg n0, if_neg n1, if_neg n2, if_neg n3, if_neg n4, if_neg n5, if_neg n6, if_neg n7, if_neg n8, if_neg n9, if_neg n10, if_neg n11, if_neg n12, if_neg n13, if_neg n14, if_neg n15, if_neg n16, if_neg n17, if_neg n18, if_neg n19, if_neg n20, if_neg n21, if_neg n22, if_neg n23, if_neg n24, if_neg n25, if_neg n26, if_pos hp]
    rfl
  replace n27 := Bool.eq_false_iff.1 n27
  refine link (R := Good s w) (s := s) h rfl (by decide) (by decide) rfl ⟨rfl, rfl⟩ (fun _ hr => hr) (fun hp => ⟨?_, rfl⟩) fun n28 a h => ?_
  · unfold nameBits
    rw [if_neg n0, if_neg n1, if_neg n2, if_neg n3, if_neg n4, if_neg n5, if_neg n6, if_neg n7, if_neg n8, if_neg n9, if_neg n10, if_neg n11, if_neg n12, if_neg n13, if_neg n14, if_neg n15, if_neg n16, if_neg n17, if_neg n18, if_neg n19, if_neg n20, if_neg n21, if_neg n22, if_neg n23, if_neg n24, if_neg n25, if_neg n26, if_neg n27, if_pos hp]
    rfl
  replace n28 := Bool.eq_false_iff.1 n28
  refine link (R := Good s w) (s := s) h rfl (by decide) (by decide) rfl ⟨rfl, rfl⟩ (fun _ hr => hr) (fun hp => ⟨?_, rfl⟩) fun n29 a h => ?_
  · unfold nameBits
    rw [if_neg n0, if_neg n1, if_neg n2, if_neg n3, if_neg n4, if_neg n5, if_neg n6, if_neg n7, if_neg n8, if_neg n9, if_neg n10, if_neg n11, if_neg n12, if_neg n13, if_neg n14, if_neg n15, if_neg n16, if_neg n17, if_neg n18, if_neg n19, if_neg n20, if_neg n21, if_neg n22, if_neg n23, if_neg n24, if_neg n25, if_neg n26, if_neg n27, if_neg n28, if_pos hp]
    rfl
  replace n29 := Bool.eq_false_iff.1 n29
  refine wp_skip ?_
  show Code.wp _ _ _ _ _
  refine wp_seq ?_
  refine wp_region_lit ?_
  refine Sym.step h rfl (by decide) (wanted_none rfl) (x_assign rfl) fun a h => ?_
  refine Sym.step h rfl (by decide) (wanted_none rfl) (x_assign rfl) fun a h => ?_
  refine wpList_nil ?_
  show Code.wp _ _ _ _ _
  refine wp_ret ?_
  refine ret_two h rfl rfl rfl (show Good s w _ _ from ⟨?_, rfl⟩)
  unfold nameBits
  rw [if_neg n0, if_neg n1, if_neg n2, if_neg n3, if_neg n4, if_neg n5, if_neg n6, if_neg n7, if_neg n8, if_neg n9, if_neg n10, if_neg n11, if_neg n12, if_neg n13, if_neg n14, if_neg n15, if_neg n16, if_neg n17, if_neg n18, if_neg n19, if_neg n20, if_neg n21, if_neg n22, if_neg n23, if_neg n24, if_neg n25, if_neg n26, if_neg n27, if_neg n28, if_neg n29]
  rfl

/-! #### the pieces of a text, read as masks -/
def trimB (s : ByteArray) : ByteArray := ⟨(Lib.trimSpace s.data.toList).toArray⟩
def orAll : List ByteArray → Int → Option Int
  | [], m => some m
  | p :: r, m => (nameBits (trimB p)).bind fun b => orAll r (Go.bits .or .u64 m b)
theorem Glob.below {w w' : World} (h : Glob w) (hb : Below w.heap.size w w') : Glob w' := by
  refine ⟨?_⟩
  have h1 := h.space
  unfold Lib.TabIs World.var? at h1 ⊢
  obtain ⟨g, hg, h1⟩ := Option.bind_eq_some_iff.1 h1
  rw [hg]
  simp only [Option.bind_some]
  have hlt : g < w.heap.size := by
    rcases Nat.lt_or_ge g w.heap.size with h' | h'
    · exact h'
    · rw [Array.getElem?_eq_none h'] at h1; cases h1
  rw [hb.block g hlt]
  exact h1
theorem trim_any (s : ByteArray) (w : World) (hg : Glob w) (hs : s.size ≤ 1000000) (ha : ∀ b ∈ s.data.toList, b.toNat < 128) : Calls Tryd.prog 21 #[.string s] w fun e w' => e = .returned (.string (trimB s)) ∧ Below w.heap.size w w' := by
  refine (Shelf.Tryd.strings_TrimSpace s w (by omega) (fun j b hb => ha b (List.mem_of_getElem? hb)) hg.space).mono ?_
  rintro e w' ⟨rfl, rfl⟩
  exact ⟨rfl, Lib.bytesWorld_below w 5 s⟩
theorem oldB {w w' : World} {k : Nat} {o : Obj} (hb : Below w.heap.size w w') (h : w.heap[k]? = some o) : w'.heap[k]? = some o :=
  (hb.block k (Array.getElem?_eq_some_iff.1 h).1).trans h
theorem quiet_below {w w' : World} (h : ∃ n, w' = w.drewN n) : Below w.heap.size w w' := by
  obtain ⟨n, rfl⟩ := h
  exact ⟨rfl, rfl, rfl, by simp, fun k hk => by simp⟩
theorem enters13 : Enters Tryd.prog 13 := enters_of Tryd.func13 (by kernel_rfl) rfl
theorem enters21 : Enters Tryd.prog 21 := enters_of Tryd.func21 (by kernel_rfl) rfl
theorem enters22 : Enters Tryd.prog 22 := enters_of Tryd.func22 (by kernel_rfl) rfl
section
variable {w : World} {l : Slots} {x y z : Operand} {d : Option Tmp} {t2 ty : TypeId} {pos : String} {aft : Array Edge} {g : Option (Nat × Bool)}
theorem x_ori {P : Program} {t : TypeId} {k : IntKind} {m n : Int} (ht : P.underlying t = some (.int k)) (hx : ev l x = some (.int k m)) (hy : ev l y = some (.int k n)) :
    Ex P l w { dst := d, op := .binOp .or t x y t2, type := ty, pos := pos, after := aft, guard := g } (.int k (Go.bits .or k m n)) w := fun N a h => by
  simp only [execOp, h.ev hx, h.ev hy]
  simp [go_sem, run_underlying ht, ht]
theorem x_nilCheck {P : Program} {ad : Addr} (hx : ev l x = some (.pointer (some ad))) :
    Ex P l w { dst := d, op := .nilCheck x, type := ty, pos := pos, after := aft, guard := g } (.pointer (some ad)) w := fun N a h => by
  simp only [execOp, h.ev hx]
  simp [go_sem]
theorem x_nilEq {s : Nat} (hx : ev l (.tmp s) = some .nilIface) :
    Ex Tryd.prog l w { dst := d, op := .binOp .eql 42 (.tmp s) (.const .nilIface) 42, type := ty, pos := pos, after := aft, guard := g } (.bool true) w := fun N a h => by
  simp only [execOp, h.ev hx, h.ev (show ev l (.const .nilIface) = some .nilIface from rfl)]
  have hu := Tryd.underlying42
  simp [go_sem, eqGuard, hu]
theorem x_alloc38 :
    Ex Tryd.prog l w { dst := d, op := .alloc 38, type := ty, pos := pos, after := aft, guard := g } (.pointer (some ⟨w.heap.size, 0, none⟩)) (w.alloc (.cells #[.int .u64 0] 38)) := fun N a h => by
  simp only [execOp]
  simp [go_sem]
theorem run_store38 {b : Nat} {u : Value} {n : Int} {a : Act} {N : Nat} (h : Fm N l a) (hx : ev l x = some (.pointer (some ⟨b, 0, none⟩))) (hy : ev l y = some (.int .u64 n)) (hb : w.heap[b]? = some (.cells #[u] 38 (0, 0))) :
    (execOp a.eval { dst := none, op := .store 38 x y, type := ty, pos := pos, after := aft, guard := g }).run Tryd.prog w = .ok .skip (w.setRow b #[.int .u64 n]) := by
  simp only [execOp, h.ev hx, h.ev hy]
  have hu := Tryd.underlying38
  have e0 : w.cell? ⟨b, 0, none⟩ = some u := by simp [World.cell?, hb]
  have f0 : w.frozen? ⟨b, 0, none⟩ = false := by simp [World.frozen?, hb]
  have s0 : w.setCell ⟨b, 0, none⟩ (.int .u64 n) = w.setRow b #[.int .u64 n] := setCell_eq_setRow w b 0 #[u] 38 (0, 0) (.int .u64 n) hb
  simp [go_sem, hu, run_isAgg_plain hu rfl, e0, f0, s0]
theorem x_el40 {ad : Addr} {n c k : Nat} (hx : ev l x = some (.slice (some ad) n c)) (hy : ev l y = some (.int .i64 (k : Int))) (hk : k < n) :
    Ex Tryd.prog l w { dst := d, op := .indexAddr 40 x y, type := ty, pos := pos, after := aft, guard := g } (.pointer (some (ad.add k))) w := by
  obtain ⟨i, hi, hs⟩ : ∃ i, Tryd.prog.info? 9 = some i ∧ i.size = 1 := by
    have hinf : (Tryd.prog.info? 9).map (fun i => i.size) = some 1 := by kernel_rfl
    cases e : Tryd.prog.info? 9 with
    | none => rw [e] at hinf; cases hinf
    | some i => rw [e] at hinf; exact ⟨i, rfl, Option.some.inj hinf⟩
  have := x_elem (P := Tryd.prog) (w := w) (d := d) (ty := ty) (pos := pos) (aft := aft) (g := g) Tryd.underlying40 hi hs hx hy (by omega) (by omega)
  rwa [Int.toNat_natCast, Nat.mul_one] at this
end
theorem cellS {w : World} {A : Option Addr} {L : List ByteArray} (h : Kd.C Kd.string w A L.length L) {i : Nat} (hi : i < L.length) : ∃ ad, A = some ad ∧ w.cell? (ad.add i) = some (.string L[i]) := by
  obtain ⟨ad, c, e, _, hK, hc⟩ := Kd.C_get h ByteArray.empty (i : Int) (by omega) (by omega)
  have hK' : c = [.string (L.getD (i : Int).toNat ByteArray.empty)] := hK
  subst hK'
  have := hc 0 _ rfl
  rw [Int.toNat_natCast, Nat.add_zero, show Kd.string.sz = 1 from rfl, Nat.mul_one, List.getD_eq_getElem?_getD, List.getElem?_eq_getElem hi] at this
  exact ⟨ad, e, this⟩
theorem pieces_facts (c : UInt8) : ∀ (f : Nat) (s : ByteArray), s.size ≤ f → (Spl.splitB c f s).length ≤ s.size + 1 ∧ ∀ p ∈ Spl.splitB c f s, p.size ≤ s.size ∧ ∀ b ∈ p.data.toList, b ∈ s.data.toList
  | 0, s, h => by
    rw [Spl.splitB]
    exact ⟨by simp, fun p hp => by rw [List.mem_singleton.1 hp]; exact ⟨Nat.le_refl _, fun b hb => hb⟩⟩
  | f + 1, s, h => by
    rw [Spl.splitB]
    have hex : ∀ i j b, b ∈ (s.extract i j).data.toList → b ∈ s.data.toList := fun i j b hb => by
      rw [← Lib.toList_data, Lib.extract_toList] at hb
      exact List.mem_of_mem_drop (List.mem_of_mem_take hb)
    split
    · rename_i hi
      have he : (s.extract (Spl.idxB c s.data.toList + 1) s.size).size ≤ s.size - 1 := by rw [ByteArray.size_extract]; omega
      obtain ⟨i2, i3⟩ := pieces_facts c f (s.extract (Spl.idxB c s.data.toList + 1) s.size) (by omega)
      refine ⟨by rw [List.length_cons]; omega, fun p hp => ?_⟩
      rcases List.mem_cons.1 hp with rfl | hp
      · exact ⟨by rw [ByteArray.size_extract]; omega, fun b hb => hex _ _ b hb⟩
      · exact ⟨Nat.le_trans (i3 p hp).1 (by omega), fun b hb => hex _ _ b ((i3 p hp).2 b hb)⟩
    · exact ⟨by simp, fun p hp => by rw [List.mem_singleton.1 hp]; exact ⟨Nat.le_refl _, fun b hb => hb⟩⟩
set_option maxRecDepth 100000 in
set_option maxHeartbeats 4000000 in
/-- MultiEncoder.Set, of a text of names alone. -/
theorem set_any (b : Nat) (m0 m : Int) (s : ByteArray) (w0 : World) (hg : Glob w0) (hcell : w0.heap[b]? = some (.cells #[.int .u64 m0] 38 (0, 0))) (hs : s.size ≤ 100000) (ha : ∀ x ∈ s.data.toList, x.toNat < 128) (hm : orAll (pieces 44 s) 0 = some m) :
    Calls Tryd.prog 13 #[.pointer (some ⟨b, 0, none⟩), .string s] w0 fun e w' => e = .returned .nilIface ∧ w'.heap[b]? = some (.cells #[.int .u64 m] 38 (0, 0)) ∧ Below b w0 w' := by
  have hbl : b < w0.heap.size := (Array.getElem?_eq_some_iff.1 hcell).1
  obtain ⟨pl, pf⟩ := pieces_facts 44 s.size s (Nat.le_refl _)
  refine calls_of_wp Tryd.func13 rfl ?_
  have h : Fm 45 [(0, .pointer (some ⟨b, 0, none⟩)), (1, .string s)] ⟨#[Value.pointer (some ⟨b, 0, none⟩), .string s] ++ Array.replicate (Tryd.f13.ntmps - (#[Value.pointer (some ⟨b, 0, none⟩), .string s] : Array Value).size) undef, []⟩ := Fm.start _ _ _ (by kernel_rfl) lk2
  generalize (⟨#[Value.pointer (some ⟨b, 0, none⟩), .string s] ++ Array.replicate (Tryd.f13.ntmps - (#[Value.pointer (some ⟨b, 0, none⟩), .string s] : Array Value).size) undef, []⟩ : Act) = a at h
  refine wp_seq ?_
  refine wp_region_lit ?_
  refine Sym.step h rfl (by decide) (wanted_none rfl) (x_assign rfl) fun a h => ?_
  refine wpList_nil ?_
  show Code.wp _ _ _ _ _
  refine wp_seq ?_
  refine wp_region_lit ?_
  refine Sym.step h rfl (by decide) (wanted_none rfl) (x_assign rfl) fun a h => ?_
  refine wpList_nil ?_
  show Code.wp _ _ _ _ _
  refine wp_seq ?_
  refine wp_seq ?_
  refine wp_region_lit ?_
  refine Sym.step h rfl (by decide) (wanted_none rfl) (x_move rfl) fun a h => ?_
  refine Sym.call h rfl (by decide) (wanted_none rfl) rfl Spl.enters20 (fun a h => map2 h rfl rfl) ?_
  refine (Spl.split_any 44 s w0 (by omega)).mono ?_
  rintro e w1 ⟨v, rfl, hR, hb1⟩
  refine ⟨_, rfl, fun a h => ?_⟩
  replace pl : (pieces 44 s).length ≤ s.size + 1 := pl
  replace pf : ∀ p ∈ pieces 44 s, p.size ≤ s.size ∧ ∀ b ∈ p.data.toList, b ∈ s.data.toList := pf
  generalize pieces 44 s = L at *
  obtain ⟨A, c, rfl, hcap, hC⟩ := Kd.R_reads hR
  refine Sym.step h rfl (by decide) (wanted_none rfl) (x_lenr Tryd.underlying40 rfl) fun a h => ?_
  refine Sym.step h rfl (by decide) (wanted_none rfl) (x_move rfl) fun a h => ?_
  refine wpList_nil ?_
  show Code.wp _ _ _ _ _
  refine wp_block ?_
  refine wp_loop_ghost (fun n a' W => ∃ (i : Nat) (acc : Int), i ≤ L.length ∧ n = L.length - i ∧ Fm 45 [(0, .pointer (some ⟨b, 0, none⟩)), (5, .int .u64 acc), (13, .slice A L.length c), (14, .int .i64 (L.length : Int)), (15, .int .i64 (i : Int))] a' ∧ Below w1.heap.size w1 W ∧ orAll (L.drop i) acc = some m) L.length ⟨0, 0, by omega, rfl, by exact h.pick [0, 5, 13, 14, 15] rfl, Below.refl _ _, hm⟩ ?_
  clear h
  rintro n a W ⟨i, acc, hi, rfl, h, hBW, hacc⟩
  have hB0 := hb1.trans (hBW.mono hb1.size)
  have hCW : Kd.C Kd.string W A L.length L := Kd.C_below hC hBW
  refine wp_seq ?_
  refine wp_region_lit ?_
  by_cases hlt : decide ((i : Int) < (L.length : Int)) = true
  case neg =>
    refine Sym.step h rfl (by decide) (wanted_none rfl) (Ex.to (x_lssi Tryd.underlying3 rfl rfl) (congrArg Value.bool (Bool.eq_false_iff.2 hlt))) fun a h => ?_
    refine wpList_nil ?_
    show Code.wp _ _ _ _ _
    refine wp_seq ?_
    refine wp_cond_false (h.slot 16 _ rfl) (wp_exit ?_)
    show Code.wp _ _ _ _ _
    have hi' : i = L.length := by
      rcases Nat.lt_or_ge i L.length with h' | h'
      · exact absurd (decide_eq_true (by omega)) hlt
      · omega
    subst hi'
    rw [List.drop_length] at hacc
    obtain rfl : acc = m := Option.some.inj hacc
    have hcW := oldB hB0 hcell
    refine wp_seq ?_
    refine wp_region_lit ?_
    refine Sym.step h rfl (by decide) (wanted_none rfl) (x_move rfl) fun a h => ?_
    refine Sym.step h rfl (by decide) (wanted_none rfl) (x_move rfl) fun a h => ?_
    refine Sym.step h rfl (by decide) (wanted_none rfl) (x_nilCheck rfl) fun a h => ?_
    refine Sym.effect h rfl rfl (run_store38 h rfl rfl hcW) ?_
    refine wpList_nil ?_
    show Code.wp _ _ _ _ _
    refine wp_seq ?_
    refine wp_region_lit ?_
    refine Sym.step h rfl (by decide) (wanted_none rfl) (x_assign rfl) fun a h => ?_
    refine wpList_nil ?_
    show Code.wp _ _ _ _ _
    refine wp_ret ?_
    refine ret_slot h rfl (by decide) rfl ⟨rfl, setRow_heap W b _ _ 38 _ hcW, (hB0.mono (Nat.le_of_lt hbl)).trans ⟨rfl, rfl, rfl, by simp, fun k hk => setRow_other _ _ k _ (by omega)⟩⟩
  case pos =>
    have hil : i < L.length := by have := of_decide_eq_true hlt; omega
    obtain ⟨ad, hA, c0⟩ := cellS hCW hil
    subst hA
    have hpf := pf _ (List.getElem_mem hil)
    rw [List.drop_eq_getElem_cons hil] at hacc
    obtain ⟨P, hP⟩ : ∃ P, L[i] = P := ⟨_, rfl⟩
    rw [hP] at c0 hpf hacc
    obtain ⟨bb, hbb, hacc⟩ := Option.bind_eq_some_iff.1 hacc
    refine Sym.step h rfl (by decide) (wanted_none rfl) (Ex.to (x_lssi Tryd.underlying3 rfl rfl) (congrArg Value.bool hlt)) fun a h => ?_
    refine wpList_nil ?_
    show Code.wp _ _ _ _ _
    refine wp_seq ?_
    refine wp_cond_true (h.slot 16 _ rfl) (wp_skip ?_)
    show Code.wp _ _ _ _ _
    refine wp_seq ?_
    refine wp_block ?_
    refine wp_seq ?_
    refine wp_region_lit ?_
    refine Sym.step h rfl (by decide) (wanted_none rfl) (x_el40 rfl rfl hil) fun a h => ?_
    refine Sym.step h rfl (by decide) (wanted_none rfl) (x_loads Tryd.underlying9 rfl c0) fun a h => ?_
    refine Sym.step h rfl (by decide) (wanted_none rfl) (x_assign rfl) fun a h => ?_
    refine wpList_nil ?_
    show Code.wp _ _ _ _ _
    refine wp_seq ?_
    refine wp_region_lit ?_
    refine Sym.step h rfl (by decide) (wanted_none rfl) (x_move rfl) fun a h => ?_
    refine Sym.call h rfl (by decide) (wanted_none rfl) rfl enters21 (fun a h => map1 h rfl) ?_
    refine (trim_any P W (Glob.below hg hB0) (by omega) (fun x hx => ha x (hpf.2 x hx))).mono ?_
    rintro e W2 ⟨rfl, hb3⟩
    refine ⟨_, rfl, fun a h => ?_⟩
    replace h := h.pick [20, 0, 5, 13, 14, 15] rfl
    refine Sym.step h rfl (by decide) (wanted_none rfl) (x_assign rfl) fun a h => ?_
    refine wpList_nil ?_
    show Code.wp _ _ _ _ _
    refine wp_seq ?_
    refine wp_region_lit ?_
    refine Sym.step h rfl (by decide) (wanted_none rfl) (x_move rfl) fun a h => ?_
    refine Sym.call h rfl (by decide) (wanted_none rfl) rfl enters22 (fun a h => map1 h rfl) ?_
    refine (name_any (trimB P) W2).mono ?_
    rintro e W3 ⟨rfl, rfl⟩
    refine ⟨_, rfl, fun a h => ?_⟩
    rw [hbb] at h
    refine Sym.step h rfl (by decide) (wanted_none rfl) (x_move rfl) fun a h => ?_
    refine Sym.step h rfl (by decide) (wanted_none rfl) (x_extract rfl rfl) fun a h => ?_
    refine Sym.step h rfl (by decide) (wanted_none rfl) (x_extract rfl rfl) fun a h => ?_
    refine Sym.step h rfl (by decide) (wanted_none rfl) (x_assign rfl) fun a h => ?_
    refine Sym.step h rfl (by decide) (wanted_none rfl) (x_assign rfl) fun a h => ?_
    refine wpList_nil ?_
    show Code.wp _ _ _ _ _
    refine wp_seq ?_
    refine wp_region_lit ?_
    refine Sym.step h rfl (by decide) (wanted_none rfl) (x_move rfl) fun a h => ?_
    refine wpList_nil ?_
    show Code.wp _ _ _ _ _
    refine wp_cond_true (h.slot 26 _ rfl) ?_
    refine wp_region_lit ?_
    refine Sym.step h rfl (by decide) (wanted_none rfl) (x_move rfl) fun a h => ?_
    refine Sym.step h rfl (by decide) (wanted_none rfl) (x_move rfl) fun a h => ?_
    refine Sym.step h rfl (by decide) (wanted_none rfl) (x_ori Tryd.underlying38 rfl rfl) fun a h => ?_
    refine Sym.step h rfl (by decide) (wanted_none rfl) (x_assign rfl) fun a h => ?_
    refine wpList_nil ?_
    show Code.wp _ _ _ _ _
    have hadd : IntKind.i64.wrap ((i : Int) + 1) = ((i + 1 : Nat) : Int) := by rw [IntKind.wrap_i64]; omega
    refine wp_region_lit ?_
    refine Sym.step h rfl (by decide) (wanted_none rfl) (x_addi Tryd.underlying3 rfl rfl hadd) fun a h => ?_
    refine Sym.step h rfl (by decide) (wanted_none rfl) (x_move rfl) fun a h => ?_
    refine wpList_nil ?_
    exact ⟨L.length - (i + 1), by omega, i + 1, _, hil, rfl, h.pick [0, 5, 13, 14, 15] rfl, hBW.trans (hb3.mono hBW.size), hacc⟩
set_option maxRecDepth 100000 in
/-- impl.MaskSet, of a text of names alone. -/
theorem mask_set (m0 : Int) (s : ByteArray) (m : Int) (w0 : World) (hg : Glob w0) (hs : s.size ≤ 100000) (ha : ∀ x ∈ s.data.toList, x.toNat < 128) (hm : orAll (pieces 44 s) 0 = some m) :
    Calls Tryd.prog 9 #[.int .u64 m0, .string s] w0 fun e w' => e = .returned (.tuple #[.int .u64 m, .bool true]) ∧ Below w0.heap.size w0 w' := by
  refine calls_of_wp Tryd.func9 rfl ?_
  have h : Fm 14 [(0, .int .u64 m0), (1, .string s)] ⟨#[Value.int .u64 m0, .string s] ++ Array.replicate (Tryd.f9.ntmps - (#[Value.int .u64 m0, .string s] : Array Value).size) undef, []⟩ := Fm.start _ _ _ (by kernel_rfl) lk2
  generalize (⟨#[Value.int .u64 m0, .string s] ++ Array.replicate (Tryd.f9.ntmps - (#[Value.int .u64 m0, .string s] : Array Value).size) undef, []⟩ : Act) = a at h
  refine wp_seq ?_
  refine wp_region_lit ?_
  refine Sym.step h rfl (by decide) (wanted_none rfl) (x_assign rfl) fun a h => ?_
  refine Sym.step h rfl (by decide) (wanted_none rfl) (x_assign rfl) fun a h => ?_
  refine wpList_nil ?_
  show Code.wp _ _ _ _ _
  refine wp_seq ?_
  refine wp_region_lit ?_
  refine Sym.step h rfl (by decide) (wanted_none rfl) (x_move rfl) fun a h => ?_
  refine Sym.step h rfl (by decide) (wanted_none rfl) (x_alloc38) fun a h => ?_
  have hnew := heap_alloc_new w0 (.cells #[.int .u64 0] 38)
  have hb0 : Below w0.heap.size w0 (w0.alloc (.cells #[.int .u64 0] 38)) := (Below.refl _ w0).alloc (Nat.le_refl _) _
  refine Sym.effect h rfl rfl (run_store38 h rfl rfl hnew) ?_
  refine wpList_nil ?_
  show Code.wp _ _ _ _ _
  have hn1 := setRow_heap _ w0.heap.size _ #[Value.int .u64 m0] 38 _ hnew
  have hb1 : Below w0.heap.size w0 ((w0.alloc (.cells #[.int .u64 0] 38)).setRow w0.heap.size #[.int .u64 m0]) := hb0.trans ⟨rfl, rfl, rfl, by simp, fun k hk => setRow_other _ _ k _ (by omega)⟩
  generalize (w0.alloc (.cells #[.int .u64 0] 38)).setRow w0.heap.size #[.int .u64 m0] = w1 at hn1 hb1
  refine wp_seq ?_
  refine wp_region_lit ?_
  refine Sym.step h rfl (by decide) (wanted_none rfl) (x_move rfl) fun a h => ?_
  refine Sym.call h rfl (by decide) (wanted_none rfl) rfl enters13 (fun a h => map2 h rfl rfl) ?_
  refine (set_any w0.heap.size m0 m s w1 (Glob.below hg hb1) hn1 hs ha hm).mono ?_
  rintro e w2 ⟨rfl, hn2, hb2⟩
  refine ⟨_, rfl, fun a h => ?_⟩
  refine Sym.step h rfl (by decide) (wanted_none rfl) (x_assign rfl) fun a h => ?_
  refine wpList_nil ?_
  show Code.wp _ _ _ _ _
  have hc2 : w2.cell? ⟨w0.heap.size, 0, none⟩ = some (.int .u64 m) := by simp [World.cell?, hn2]
  refine wp_seq ?_
  refine wp_region_quiet_lit (by kernel_rfl) (by kernel_rfl) ?_
  refine q_step h rfl (by decide) (wanted_none rfl) (by intro w hw; exact x_loadi Tryd.underlying38 rfl (q_cell hw hc2)) fun a h => ?_
  refine q_step h rfl (by decide) (wanted_none rfl) (fun w hw => x_move rfl) fun a h => ?_
  refine q_step h rfl (by decide) (wanted_none rfl) (fun w hw => x_nilEq rfl) fun a h => ?_
  refine q_step h rfl (by decide) (wanted_none rfl) (fun w hw => x_assign rfl) fun a h => ?_
  refine q_step h rfl (by decide) (wanted_none rfl) (fun w hw => x_assign rfl) fun a h => ?_
  intro w3 hw3
  show Code.wp _ _ _ _ _
  refine wp_ret ?_
  exact ret_two h rfl rfl rfl ⟨rfl, (hb1.trans hb2).trans ((quiet_below hw3).mono (hb1.trans hb2).size)⟩
end Go.Proofs.YtiaokohnibkmbaaDoor.Mset
