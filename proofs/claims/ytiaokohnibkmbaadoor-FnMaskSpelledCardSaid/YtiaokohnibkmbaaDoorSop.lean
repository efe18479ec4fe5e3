import Derived.Test.YtiaokohnibkmbaaDoorSym
namespace Go.Proofs.YtiaokohnibkmbaaDoor.Sym
open Go Go.RowKit Go.Proofs.YtiaokohnibkmbaaDoorW.PrintWords Go.Proofs.YtiaokohnibkmbaaDoorW.PrintLast Go.Proofs.YtiaokohnibkmbaaDoorW.PrintMore
set_option linter.unusedVariables false
set_option linter.unusedSimpArgs false
/-! ### what each kind of operation yields -/
section
variable {P : Program} {w : World} {l : Slots} {x y z : Operand} {d : Option Tmp} {t t2 ty : TypeId} {pos : String} {aft : Array Edge} {g : Option (Nat × Bool)} {v : Value}
theorem x_move (hx : ev l x = some v) : Ex P l w { dst := d, op := .move x, type := ty, pos := pos, after := aft, guard := g } v w := fun N a h => by
  simp only [execOp, h.ev hx]
  rfl
theorem x_assign (hx : ev l x = some v) : Ex P l w { dst := d, op := .assign x, type := ty, pos := pos, after := aft, guard := g } v w := fun N a h => by
  simp only [execOp, h.ev hx]
  rfl
theorem x_pick {c : Bool} {v1 v2 : Value} (hx : ev l x = some (.bool c)) (hy : ev l y = some v1) (hz : ev l z = some v2) : Ex P l w { dst := d, op := .pick x y z, type := ty, pos := pos, after := aft, guard := g } (if c = true then v1 else v2) w := fun N a h => by
  simp only [execOp, h.ev hx, h.ev hy, h.ev hz]
  simp [go_sem]
theorem x_eqls {s1 s2 : ByteArray} (ht : P.underlying t = some .string) (hx : ev l x = some (.string s1)) (hy : ev l y = some (.string s2)) :
    Ex P l w { dst := d, op := .binOp .eql t x y t2, type := ty, pos := pos, after := aft, guard := g } (.bool (s1.toList == s2.toList)) w := fun N a h => Fr.run_eqls ht (h.ev hx) (h.ev hy)
theorem x_eqli {k : IntKind} {m n : Int} (ht : P.underlying t = some (.int k)) (hx : ev l x = some (.int k m)) (hy : ev l y = some (.int k n)) :
    Ex P l w { dst := d, op := .binOp .eql t x y t2, type := ty, pos := pos, after := aft, guard := g } (.bool (m == n)) w := fun N a h => Fr.run_eqli ht (h.ev hx) (h.ev hy)
theorem x_neqi {k : IntKind} {m n : Int} (ht : P.underlying t = some (.int k)) (hx : ev l x = some (.int k m)) (hy : ev l y = some (.int k n)) :
    Ex P l w { dst := d, op := .binOp .neq t x y t2, type := ty, pos := pos, after := aft, guard := g } (.bool (m != n)) w := fun N a h => by
  simp only [execOp, h.ev hx, h.ev hy]
  simp [go_sem, run_underlying ht, ht, bne]
theorem x_lssi {k : IntKind} {m n : Int} (ht : P.underlying t = some (.int k)) (hx : ev l x = some (.int k m)) (hy : ev l y = some (.int k n)) :
    Ex P l w { dst := d, op := .binOp .lss t x y t2, type := ty, pos := pos, after := aft, guard := g } (.bool (decide (m < n))) w := fun N a h => by
  simp only [execOp, h.ev hx, h.ev hy]
  simp [go_sem, run_underlying ht, ht]
theorem x_gtri {k : IntKind} {m n : Int} (ht : P.underlying t = some (.int k)) (hx : ev l x = some (.int k m)) (hy : ev l y = some (.int k n)) :
    Ex P l w { dst := d, op := .binOp .gtr t x y t2, type := ty, pos := pos, after := aft, guard := g } (.bool (decide (n < m))) w := fun N a h => by
  simp only [execOp, h.ev hx, h.ev hy]
  simp [go_sem, run_underlying ht, ht]
theorem x_geqi {k : IntKind} {m n : Int} (ht : P.underlying t = some (.int k)) (hx : ev l x = some (.int k m)) (hy : ev l y = some (.int k n)) :
    Ex P l w { dst := d, op := .binOp .geq t x y t2, type := ty, pos := pos, after := aft, guard := g } (.bool (decide (n ≤ m))) w := fun N a h => by
  simp only [execOp, h.ev hx, h.ev hy]
  simp [go_sem, run_underlying ht, ht]
theorem x_leqi {k : IntKind} {m n : Int} (ht : P.underlying t = some (.int k)) (hx : ev l x = some (.int k m)) (hy : ev l y = some (.int k n)) :
    Ex P l w { dst := d, op := .binOp .leq t x y t2, type := ty, pos := pos, after := aft, guard := g } (.bool (decide (m ≤ n))) w := fun N a h => by
  simp only [execOp, h.ev hx, h.ev hy]
  simp [go_sem, run_underlying ht, ht]
theorem x_addi {k : IntKind} {m n r : Int} (ht : P.underlying t = some (.int k)) (hx : ev l x = some (.int k m)) (hy : ev l y = some (.int k n)) (hr : k.wrap (m + n) = r) :
    Ex P l w { dst := d, op := .binOp .add t x y t2, type := ty, pos := pos, after := aft, guard := g } (.int k r) w := fun N a h => by
  subst hr
  exact Fr.run_addi ht (h.ev hx) (h.ev hy)
theorem x_subi {k : IntKind} {m n r : Int} (ht : P.underlying t = some (.int k)) (hx : ev l x = some (.int k m)) (hy : ev l y = some (.int k n)) (hr : k.wrap (m - n) = r) :
    Ex P l w { dst := d, op := .binOp .sub t x y t2, type := ty, pos := pos, after := aft, guard := g } (.int k r) w := fun N a h => by
  subst hr
  exact Fr.run_subi ht (h.ev hx) (h.ev hy)
theorem x_andi {k : IntKind} {m n : Int} (ht : P.underlying t = some (.int k)) (hx : ev l x = some (.int k m)) (hy : ev l y = some (.int k n)) :
    Ex P l w { dst := d, op := .binOp .and t x y t2, type := ty, pos := pos, after := aft, guard := g } (.int k (Go.bits .and k m n)) w := fun N a h => by
  simp only [execOp, h.ev hx, h.ev hy]
  simp [go_sem, run_underlying ht, ht]
theorem x_adds {s1 s2 : ByteArray} (ht : P.underlying t = some .string) (hx : ev l x = some (.string s1)) (hy : ev l y = some (.string s2)) (hs : s1.size + s2.size ≤ 9223372036854775807) :
    Ex P l w { dst := d, op := .binOp .add t x y t2, type := ty, pos := pos, after := aft, guard := g } (.string (s1 ++ s2)) w := fun N a h => by
  simp only [execOp, h.ev hx, h.ev hy]
  simp [go_sem, run_underlying ht, ht, hs]
theorem x_len {s : ByteArray} (ht : P.underlying t = some .string) (hx : ev l x = some (.string s)) :
    Ex P l w { dst := d, op := .call { callee := .builtin .len, args := #[x], argTypes := #[t] }, type := ty, pos := pos, after := aft, guard := g } (.int .i64 s.size) w := fun N a h => Fr.run_len ht (h.ev hx)
theorem x_lenr {A : Option Addr} {n c : Nat} {e : TypeId} (ht : P.underlying t = some (.slice e)) (hx : ev l x = some (.slice A n c)) :
    Ex P l w { dst := d, op := .call { callee := .builtin .len, args := #[x], argTypes := #[t] }, type := ty, pos := pos, after := aft, guard := g } (.int .i64 n) w := fun N a h => by
  simp only [execOp, resolve, show (#[x]).map a.eval = #[Value.slice A n c] from by simp only [List.map_toArray, List.map_cons, List.map_nil, h.ev hx]]
  simp [go_sem, ht]
theorem x_extract {vs : Array Value} {i : Nat} {v : Value} (hx : ev l x = some (.tuple vs)) (hv : vs[i]? = some v) :
    Ex P l w { dst := d, op := .extract x i, type := ty, pos := pos, after := aft, guard := g } v w := fun N a h => Fr.run_extract (h.ev hx) hv
theorem x_boxi {k : IntKind} {n : Int} (ht : P.underlying t = some (.int k)) (hx : ev l x = some (.int k n)) :
    Ex P l w { dst := d, op := .box t x, type := ty, pos := pos, after := aft, guard := g } (.pointer (some ⟨w.heap.size, 0, none⟩)) (w.alloc (.cells #[.int k n] t)) := fun N a h => Fr.run_box ht (h.ev hx)
theorem x_loadi {p : Addr} {k : IntKind} {n : Int} (ht : P.underlying t = some (.int k)) (hx : ev l x = some (.pointer (some p))) (hc : w.cell? p = some (.int k n)) :
    Ex P l w { dst := d, op := .load t x, type := ty, pos := pos, after := aft, guard := g } (.int k n) w := fun N a h => by
  simp only [execOp, h.ev hx]
  simp [go_sem, run_isAgg_plain ht rfl, hc]
theorem x_loads {p : Addr} {s : ByteArray} (ht : P.underlying t = some .string) (hx : ev l x = some (.pointer (some p))) (hc : w.cell? p = some (.string s)) :
    Ex P l w { dst := d, op := .load t x, type := ty, pos := pos, after := aft, guard := g } (.string s) w := fun N a h => by
  simp only [execOp, h.ev hx]
  simp [go_sem, run_isAgg_plain ht rfl, hc]
theorem x_loadb {p : Addr} {b : Bool} (ht : P.underlying t = some .bool) (hx : ev l x = some (.pointer (some p))) (hc : w.cell? p = some (.bool b)) :
    Ex P l w { dst := d, op := .load t x, type := ty, pos := pos, after := aft, guard := g } (.bool b) w := fun N a h => by
  simp only [execOp, h.ev hx]
  simp [go_sem, run_isAgg_plain ht rfl, hc]
theorem x_makeFunc {f : FuncId} {xs : Array Operand} {vs : Array Value} (hx : ∀ N a, Fm N l a → xs.map a.eval = vs) :
    Ex P l w { dst := d, op := .makeFunc (.func f) #[] xs, type := ty, pos := pos, after := aft, guard := g } (.func (.func f) #[] vs) w := fun N a h => by
  simp only [execOp, hx N a h]
  simp [go_sem, Instr.makeFunc]
/-- The address of an element. -/
theorem x_elem {ad : Addr} {n c sz : Nat} {e : TypeId} {i : Int} {inf : TypeInfo} (ht : P.underlying t = some (.slice e)) (hi : P.info? e = some inf) (hs : inf.size = sz) (hx : ev l x = some (.slice (some ad) n c)) (hy : ev l y = some (.int .i64 i)) (h0 : 0 ≤ i) (h1 : i < n) :
    Ex P l w { dst := d, op := .indexAddr t x y, type := ty, pos := pos, after := aft, guard := g } (.pointer (some (ad.add (i.toNat * sz)))) w := fun N a h => by
  simp only [execOp, h.ev hx, h.ev hy]
  simp [go_sem, ht, sizeOf, typeInfo, hi, hs, h0, h1, Result.andThen]
end
theorem x_slfrom {P : Program} {w : World} {l : Slots} {x y : Operand} {d : Option Tmp} {t ty e : TypeId} {pos : String} {aft : Array Edge} {g : Option (Nat × Bool)} {A : Option Addr} {n c j sz : Nat} {i : TypeInfo} (ht : P.underlying t = some (.slice e)) (hi : P.info? e = some i) (hs : i.size = sz) (hx : ev l x = some (.slice A n c)) (hy : ev l y = some (.int .i64 (j : Int))) (hj : j ≤ n) :
    Ex P l w { dst := d, op := .slice t x (some y) none none, type := ty, pos := pos, after := aft, guard := g } (.slice (if c = j then A else A.map (·.add (j * sz))) (n - j) (c - j)) w := fun N a h => by
  simp only [execOp, h.ev hx, h.ev hy, Option.map_some, Option.map_none]
  have := cut_from t e .i64 ht hi sz hs A n c (j : Int) (by omega) (by omega) w
  rw [Int.toNat_natCast] at this
  have hu : P.underlying t = some (.slice (P.elem t)) := by rw [show P.elem t = e by simp [Program.elem, ht]]; exact ht
  rw [← run_sliceAt_slice w t _ _ _ _ hu] at this
  simp [go_sem, this]
theorem x_slto {P : Program} {w : World} {l : Slots} {x y : Operand} {d : Option Tmp} {t ty e : TypeId} {pos : String} {aft : Array Edge} {g : Option (Nat × Bool)} {A : Option Addr} {n c j : Nat} {i : TypeInfo} (ht : P.underlying t = some (.slice e)) (hi : P.info? e = some i) (hx : ev l x = some (.slice A n c)) (hy : ev l y = some (.int .i64 (j : Int))) (hj : j ≤ n) (hc : n ≤ c) :
    Ex P l w { dst := d, op := .slice t x none (some y) none, type := ty, pos := pos, after := aft, guard := g } (.slice A j c) w := fun N a h => by
  simp only [execOp, h.ev hx, h.ev hy, Option.map_some, Option.map_none]
  have := cut_to t e .i64 ht hi A n c (j : Int) (by omega) (by omega) hc w
  rw [Int.toNat_natCast] at this
  have hu : P.underlying t = some (.slice (P.elem t)) := by rw [show P.elem t = e by simp [Program.elem, ht]]; exact ht
  rw [← run_sliceAt_slice w t _ _ _ _ hu] at this
  simp [go_sem, this]
theorem x_rune {P : Program} {w : World} {l : Slots} {x : Operand} {d : Option Tmp} {t t2 ty : TypeId} {pos : String} {aft : Array Edge} {g : Option (Nat × Bool)} {k : IntKind} {n : Int} (ht : P.underlying t = some (.int k)) (hd : P.underlying t2 = some .string) (hx : ev l x = some (.int k n)) :
    Ex P l w { dst := d, op := .convert t t2 x, type := ty, pos := pos, after := aft, guard := g } (.string (Utf8.encode n)) w := fun N a h => by
  simp only [execOp, h.ev hx]
  simp [go_sem, ht, hd]
end Go.Proofs.YtiaokohnibkmbaaDoor.Sym
