import Derived.Test.YtlefemlpemjhcaaProg
import Derived.WalkKit
import Derived.Deep.Draws
import Derived.Lib.Hide
import Derived.Stop.Asserts
import Derived.Deep.LoopGhost
namespace Go.Proofs.Ytlefemlpemjhcaa.Pace
open Go.RowKit

/-- An error that tells how long to wait, in block b, wrapped n times more: its type, and what is in it. -/
def chT : Nat → TypeId
  | 0 => 59
  | _ + 1 => 66
def chX (b : Nat) : Nat → Value
  | 0 => .pointer (some ⟨b, 0, none⟩)
  | n + 1 => .agg #[.iface (chT n) (chX b n)]
abbrev chain (b n : Nat) : Value := .iface (chT n) (chX b n)

/-- A new error that tells so, in a block below the heap's end. -/
def After (b : Nat) (after : Int) (w : World) : Prop := w.cell? ⟨b, 1, none⟩ = some (.int .i64 after) ∧ b < w.heap.size

theorem After.below {b : Nat} {after : Int} {w w' : World} (h : After b after w) (hb : Below w.heap.size w w') : After b after w' :=
  ⟨(hb.cell (p := ⟨b, 1, none⟩) h.2).trans h.1, Nat.lt_of_lt_of_le h.2 hb.size⟩

theorem ta59 (v : Value) (W : World) : (Instr.typeAssert (.iface 59 v) 45 59 true).run Try.prog W = .ok (.tuple #[v, .bool true]) W := by kernel_rfl
theorem ta66 (v : Value) (W : World) : (Instr.typeAssert (.iface 66 v) 45 59 true).run Try.prog W = .ok (.tuple #[.pointer none, .bool false]) W := by kernel_rfl
theorem ta84 (v : Value) (W : World) : (Instr.typeAssert (.iface 66 v) 45 84 true).run Try.prog W = .ok (.tuple #[.nilIface, .bool false]) W := run_typeAssert_lacksB Try.underlying84 (by kernel_rfl) (by kernel_rfl) v 45 W
theorem ta88 (v : Value) (W : World) : (Instr.typeAssert (.iface 66 v) 45 88 true).run Try.prog W = .ok (.tuple #[.nilIface, .bool false]) W := run_typeAssert_lacksB Try.underlying88 (by kernel_rfl) (by kernel_rfl) v 45 W
theorem ta91 (v : Value) (W : World) : (Instr.typeAssert (.iface 66 v) 45 91 true).run Try.prog W = .ok (.tuple #[.iface 66 v, .bool true]) W := run_typeAssert_hasB Try.underlying91 (by kernel_rfl) v 45 W

/-- What is made: an error at a new block. -/
def Made (after : Int) (n : Nat) (w : World) (e : Ending) (w' : World) : Prop := ∃ b, e = .returned (chain b n) ∧ After b after w' ∧ Below w.heap.size w w'

set_option maxHeartbeats 400000 in
theorem made (after : Int) (w : World) : Calls Try.prog 25 #[.int .i64 after] w (Made after 0 w) := by
  go_enter Try.func25, Try.ntmps25
  go_wp2
  go_ret
  exact ⟨_, rfl, ⟨by simp [go_sem], by simp⟩, ((Below.refl _ _).alloc (Nat.le_refl _) _).alloc (by simp) _⟩

set_option maxHeartbeats 400000 in
theorem wrap (after : Int) (n : Nat) (hn : n ≤ 1000) (w : World) : Calls Try.prog 16 #[.int .i64 after, .int .i64 n] w (Made after n w) := by
  go_enter Try.func16, Try.ntmps16
  go_wp2_with (go_at_call 25; (with_reducible refine (made _ _).mono ?_); rintro e w1 ⟨b, rfl, ha, hb⟩)
  go_loop [5, 9] (fun v i => ∃ k : Nat, k ≤ n ∧ i = .int .i64 k ∧ v = chain b k) (fun _ i => n - (intOf i).toNat)
  case atStart => exact ⟨0, by omega, rfl, rfl⟩
  case round =>
    obtain ⟨k, hk, rfl, rfl⟩ := hrel
    by_cases hlt : k < n
    · go_wp2
      go_round
      case rel => exact ⟨k + 1, by omega, by go_num, rfl⟩
      case measure => simp [intOf]; omega
    · obtain rfl : k = n := by omega
      go_wp2
      go_ret
      exact ⟨b, rfl, ha, hb⟩

set_option maxHeartbeats 400000 in
/-- The closure, at an error that is wrapped: no. -/
theorem ask_no (b n : Nat) (c1 c2 : Addr) (w : World) : Calls Try.prog 24 #[chain b (n + 1), .pointer (some c1), .pointer (some c2)] w fun e w' => e = .returned (.bool false) ∧ w = w' := by
  show Calls Try.prog 24 #[.iface 66 (chX b (n + 1)), .pointer (some c1), .pointer (some c2)] w _
  have t1 := ta66
  go_enter Try.func24, Try.ntmps24
  go_wp2
  go_ret
  exact ⟨rfl, rfl⟩

set_option maxHeartbeats 400000 in
/-- The closure, at the error that tells: yes, and how long. -/
theorem ask_yes (b : Nat) (after : Int) (c1 c2 : Nat) (w : World) (ha : After b after w) (h1 : ∃ v, w.cell? ⟨c1, 0, none⟩ = some v) (h2 : ∃ v, w.cell? ⟨c2, 0, none⟩ = some v) (f1 : w.frozen? ⟨c1, 0, none⟩ = false) (f2 : w.frozen? ⟨c2, 0, none⟩ = false) (hne : c1 ≠ c2) :
    Calls Try.prog 24 #[chain b 0, .pointer (some ⟨c1, 0, none⟩), .pointer (some ⟨c2, 0, none⟩)] w fun e w' => e = .returned (.bool true) ∧ w' = (w.setCell ⟨c1, 0, none⟩ (.int .i64 after)).setCell ⟨c2, 0, none⟩ (.bool true) := by
  show Calls Try.prog 24 #[.iface 59 (.pointer (some ⟨b, 0, none⟩)), .pointer (some ⟨c1, 0, none⟩), .pointer (some ⟨c2, 0, none⟩)] w _
  have t1 := ta59
  obtain ⟨v1, h1⟩ := h1
  obtain ⟨v2, h2⟩ := h2
  obtain ⟨ha, _⟩ := ha
  go_enter Try.func24, Try.ntmps24
  go_wp2
  go_ret
  exact ⟨rfl, rfl⟩

set_option maxHeartbeats 400000 in
theorem unwrap (b k : Nat) (w : World) : Calls Try.prog 55 #[chX b (k + 1)] w fun e w' => e = .returned (chain b k) ∧ Below w.heap.size w w' := by
  show Calls Try.prog 55 #[.agg #[.iface (chT k) (chX b k)]] w _
  go_enter Try.func55, Try.ntmps55
  go_wp2
  go_ret
  exact ⟨rfl, by repeat (first | exact Below.refl _ _ | refine Below.alloc ?_ (Nat.le_refl _) _)⟩

theorem meth (v : Value) (w : World) : (method 226 66 v "Unwrap").run Try.prog w = .ok (55, v) w := by kernel_rfl
theorem ahead (v : Value) (w : World) : (nilAhead 226 66 v "Unwrap").run Try.prog w = .ok (some false) w := by kernel_rfl

theorem cell?_setCell_same_ {w : World} {a : Addr} {v x : Value} (h : w.cell? a = some v) : (w.setCell a x).cell? a = some x := by
  simp [h, go_sem]
/-- What holds behind a walk that finds the error. -/
def Found (c1 c2 : Nat) (after : Int) (w : World) (e : Ending) (w' : World) : Prop := e = .returned (.tuple #[]) ∧ w'.cell? ⟨c1, 0, none⟩ = some (.int .i64 after) ∧ w'.cell? ⟨c2, 0, none⟩ = some (.bool true) ∧ Below c1 w w' ∧ w.heap.size ≤ w'.heap.size

set_option maxHeartbeats 1000000 in
set_option maxRecDepth 100000 in
theorem walk_finds (b : Nat) (after : Int) (n : Nat) (c1 c2 : Nat) (w : World) (ha : After b after w) (hb1 : b < c1) (h1 : ∃ v, w.cell? ⟨c1, 0, none⟩ = some v) (h2 : ∃ v, w.cell? ⟨c2, 0, none⟩ = some v) (f1 : w.frozen? ⟨c1, 0, none⟩ = false) (f2 : w.frozen? ⟨c2, 0, none⟩ = false) (hne : c1 ≠ c2) (hc : c1 < c2) (hz : c2 < w.heap.size) :
    Calls Try.prog 23 #[chain b n, .func (.func 24) #[] #[.pointer (some ⟨c1, 0, none⟩), .pointer (some ⟨c2, 0, none⟩)]] w (Found c1 c2 after w) := by
  go_enter Try.func23, Try.ntmps23
  go_wp2_with fail
  go_loopg [0] n (fun k v wr => v = chain b k ∧ Below w.heap.size w wr)
  case atStart => exact ⟨rfl, Below.refl _ _⟩
  case round =>
    obtain ⟨rfl, hbl⟩ := hrel
    cases gk with
    | zero =>
      have ha' := ha.below hbl
      have k1 : wr.cell? ⟨c1, 0, none⟩ = w.cell? ⟨c1, 0, none⟩ := hbl.cell (p := ⟨c1, 0, none⟩) (by show c1 < _; omega)
      have k2 : wr.cell? ⟨c2, 0, none⟩ = w.cell? ⟨c2, 0, none⟩ := hbl.cell (p := ⟨c2, 0, none⟩) (by show c2 < _; omega)
      have k3 : wr.frozen? ⟨c1, 0, none⟩ = false := (hbl.frozen (p := ⟨c1, 0, none⟩) (by show c1 < _; omega)).trans f1
      have k4 : wr.frozen? ⟨c2, 0, none⟩ = false := (hbl.frozen (p := ⟨c2, 0, none⟩) (by show c2 < _; omega)).trans f2
      obtain ⟨v1, g1⟩ := h1
      obtain ⟨v2, g2⟩ := h2
      have q1 := Lib.hid (k1.trans g1)
      have q2 := Lib.hid (k2.trans g2)
      have HL := Lib.hid hbl
      have hzz := hbl.size
      clear k1 k2 g1 g2 hbl
      go_wp2_with (first | (go_at_call 24; (with_reducible refine (ask_yes _ _ _ _ _ ha' ⟨_, q1.out⟩ ⟨_, q2.out⟩ k3 k4 hne).mono ?_); rintro e w1 ⟨rfl, rfl⟩))
      go_end0
      have k1 := hb1
      refine ⟨rfl, ?_, ?_, ?_, ?_⟩
      · have g2 := q2.out
        rw [World.cell?_setCell_other _ _ _ _ (by intro e; injection e with e; exact hne e.symm)]
        exact cell?_setCell_same_ q1.out
      · refine cell?_setCell_same_ (v := v2) ?_
        rw [World.cell?_setCell_other _ _ _ _ (by intro e; injection e with e; exact hne e)]
        exact q2.out
      · exact ((HL.out.mono (B' := c1) (Nat.le_of_lt (Nat.lt_trans hc hz))).setCell (p := ⟨c1, 0, none⟩) (Nat.le_refl _) _).setCell (p := ⟨c2, 0, none⟩) (by show c1 ≤ c2; omega) _
      · simp [World.setCell]; exact HL.out.size
    | succ k =>
      have t84 : ∀ W, (Instr.typeAssert (chain b (k + 1)) 45 84 true).run Try.prog W = .ok (.tuple #[.nilIface, .bool false]) W := fun W => ta84 _ W
      have t88 : ∀ W, (Instr.typeAssert (chain b (k + 1)) 45 88 true).run Try.prog W = .ok (.tuple #[.nilIface, .bool false]) W := fun W => ta88 _ W
      have t91 : ∀ W, (Instr.typeAssert (chain b (k + 1)) 45 91 true).run Try.prog W = .ok (.tuple #[chain b (k + 1), .bool true]) W := fun W => ta91 _ W
      have m1 : ∀ W, (method 226 (chT (k + 1)) (chX b (k + 1)) "Unwrap").run Try.prog W = .ok (55, chX b (k + 1)) W := fun W => meth _ W
      go_wp2_with (first | (go_at_call 24; (with_reducible refine (ask_no _ _ _ _ _).mono ?_); rintro e w1 ⟨rfl, rfl⟩) | (go_at_call 55; (with_reducible refine (unwrap _ _ _).mono ?_); rintro e w1 ⟨rfl, hb2⟩))
      go_roundg k
      case measure => omega
      case rel => exact ⟨rfl, hbl.trans (hb2.mono hbl.size)⟩

theorem tb59 (v : Value) (W : World) : (Instr.typeAssert (.iface 97 v) 45 59 true).run Try.prog W = .ok (.tuple #[.pointer none, .bool false]) W := by kernel_rfl
theorem tb84 (v : Value) (W : World) : (Instr.typeAssert (.iface 97 v) 45 84 true).run Try.prog W = .ok (.tuple #[.nilIface, .bool false]) W := run_typeAssert_lacksB Try.underlying84 (by kernel_rfl) (by kernel_rfl) v 45 W
theorem tb88 (v : Value) (W : World) : (Instr.typeAssert (.iface 97 v) 45 88 true).run Try.prog W = .ok (.tuple #[.nilIface, .bool false]) W := run_typeAssert_lacksB Try.underlying88 (by kernel_rfl) (by kernel_rfl) v 45 W
theorem tb91 (v : Value) (W : World) : (Instr.typeAssert (.iface 97 v) 45 91 true).run Try.prog W = .ok (.tuple #[.nilIface, .bool false]) W := run_typeAssert_lacksB Try.underlying91 (by kernel_rfl) (by kernel_rfl) v 45 W

/-- No error, or one that is no such error. -/
def Plain (v : Value) : Prop := v = .nilIface ∨ ∃ b : Nat, v = .iface 97 (.pointer (some ⟨b, 0, none⟩))

set_option maxHeartbeats 1000000 in
set_option maxRecDepth 100000 in
theorem walk_none (v : Value) (hv : Plain v) (c1 c2 : Addr) (w : World) :
    Calls Try.prog 23 #[v, .func (.func 24) #[] #[.pointer (some c1), .pointer (some c2)]] w fun e w' => e = .returned (.tuple #[]) ∧ w = w' := by
  have t59 := tb59
  have t84 := tb84
  have t88 := tb88
  have t91 := tb91
  rcases hv with rfl | ⟨b, rfl⟩
  · go_enter Try.func23, Try.ntmps23
    go_wp2_with fail
    refine wp_loop_rounds 1 ?_; rw [rounds_succ]
    go_wp2
    go_end0
    exact ⟨rfl, rfl⟩
  · go_enter Try.func23, Try.ntmps23
    go_wp2_with fail
    refine wp_loop_rounds 1 ?_; rw [rounds_succ]
    go_wp2
    refine bodyPost_ret (v := .tuple #[]) (by simp [results, Try.results23]) rfl ⟨rfl, rfl⟩

theorem hmf : ∀ (fn : Fn) (first cap : Array Value) (w : World), (Instr.makeFunc fn first cap).run Try.prog w = .ok (.func fn first cap) w := fun _ _ _ _ => rfl

set_option maxHeartbeats 1000000 in
set_option maxRecDepth 100000 in
theorem is_none (v : Value) (hv : Plain v) (w : World) :
    Calls Try.prog 15 #[v] w fun e w' => e = .returned (.tuple #[.int .i64 0, .bool false]) ∧ Below w.heap.size w w' := by
  have hm := hmf
  go_enter Try.func15, Try.ntmps15
  go_wp2_with (first | (go_at_call 23; (with_reducible refine (walk_none v hv _ _ _).mono ?_); rintro e w1 ⟨rfl, rfl⟩))
  refine bodyPost_ret (v := .tuple #[.int .i64 0, .bool false]) (by simp [results, Try.results15, go_sem]) rfl ⟨rfl, ?_⟩
  exact ((Below.refl _ _).alloc (Nat.le_refl _) _).alloc (by simp) _

set_option maxHeartbeats 1000000 in
set_option maxRecDepth 100000 in
theorem is_found (b : Nat) (after : Int) (n : Nat) (w : World) (ha : After b after w) :
    Calls Try.prog 15 #[chain b n] w fun e w' => e = .returned (.tuple #[.int .i64 after, .bool true]) ∧ Below w.heap.size w w' := by
  have hm := hmf
  have hw : After b after ((w.alloc (.cells #[.int .i64 0] 41)).alloc (.cells #[.bool false] 4)) := ha.below (((Below.refl _ _).alloc (Nat.le_refl _) _).alloc (by simp) _)
  have hx := walk_finds b after n w.heap.size (w.heap.size + 1) ((w.alloc (.cells #[.int .i64 0] 41)).alloc (.cells #[.bool false] 4)) hw ha.2 ⟨.int .i64 0, by simp [go_sem]⟩ ⟨.bool false, by simp [go_sem]⟩ (by simp [go_sem]) (by simp [go_sem]) (by omega) (by omega) (by simp)
  have HX := Lib.hid hx
  clear hx hw
  go_enter Try.func15, Try.ntmps15
  go_wp2_with (first | (go_at_call 23; (with_reducible refine (HX.out).mono ?_); rintro e w1 ⟨rfl, k1, k2, k3, k4⟩))
  refine bodyPost_ret (v := .tuple #[.int .i64 after, .bool true]) (by simp [results, Try.results15, go_sem, k1, k2]) rfl ⟨rfl, ?_⟩
  exact (((Below.refl _ _).alloc (Nat.le_refl _) _).alloc (by simp) _).trans k3
end Go.Proofs.Ytlefemlpemjhcaa.Pace
