/- Plain lemmas of this session: rounds that tell, texts as lists of bytes. -/
import Derived.Test.YtbennnoddflggaaDoorWWords
import Derived.OpenShut
import Derived.Laws.Strings
namespace Go.Proofs.YtbennnoddflggaaDoor.Plain
open Go.RowKit Go.Proofs.YtbennnoddflggaaDoorW.PrintWords

/-! ### rounds that tell -/
theorem Ev.if_pos {α : Type} {c : Prop} [Decidable c] {g f : Nat → Option α} {r : α} (h : c) (k : Ev g r) : Ev (fun n => if c then g n else f n) r :=
  Ev.congr (f := g) (fun _ => _root_.if_pos h) k
theorem Ev.if_neg {α : Type} {c : Prop} [Decidable c] {g f : Nat → Option α} {r : α} (h : ¬ c) (k : Ev f r) : Ev (fun n => if c then g n else f n) r :=
  Ev.congr (f := f) (fun _ => _root_.if_neg h) k
/-- A call without rounds. -/
theorem Ev.bindc {α β : Type} {a : Option α} {x : α} {f : Nat → α → Option β} {r : β} (h : a = some x) (k : Ev (fun n => f n x) r) : Ev (fun n => a.bind (f n)) r :=
  Ev.congr (f := fun n => f n x) (fun n => by rw [h]; rfl) k
theorem Ev.const {α : Type} {a : Option α} {r : α} (h : a = some r) : Ev (fun _ => a) r := ⟨0, fun _ _ => h⟩

/-! ### texts -/
theorem bt_is (s : ByteArray) (i : Nat) (h : i < s.size) : bt s (i : Int) = ((s[i]'h).toNat : Int) := by
  simp [bt, h]
theorem size_data (s : ByteArray) : s.data.toList.length = s.size := rfl
theorem data_ext {a b : ByteArray} (h : a.data.toList = b.data.toList) : a = b := by
  cases a; cases b; simp at h; simp [h]
theorem data_append (a b : ByteArray) : (a ++ b).data.toList = a.data.toList ++ b.data.toList := by
  simp [ByteArray.data_append]
theorem data_extract (s : ByteArray) (a b : Nat) : (s.extract a b).data.toList = (s.data.toList.drop a).take (b - a) := by
  simp [ByteArray.data_extract, Array.toList_extract, List.extract]
theorem get_data (s : ByteArray) (i : Nat) (h : i < s.size) : s[i]'h = s.data.toList[i]'h := rfl
theorem size_append (a b : ByteArray) : (a ++ b).size = a.size + b.size := ByteArray.size_append
theorem toList_inj {a b : ByteArray} (h : a.toList = b.toList) : a = b := by
  rw [Go.ByteArray.toList_eq, Go.ByteArray.toList_eq] at h; exact data_ext h
theorem toList_nil {a : ByteArray} (h : a.toList = []) : a.size = 0 := by
  rw [Go.ByteArray.toList_eq] at h; rw [← size_data, h]; rfl
theorem wrap64_of {x : Int} (h0 : -9223372036854775808 ≤ x) (h1 : x ≤ 9223372036854775807) : wrap64 x = x := by
  unfold wrap64; omega
end Go.Proofs.YtbennnoddflggaaDoor.Plain
