import Derived.Test.Qxb6614376aFmtBytes
namespace Go.Proofs.Qxb6614376aFmt
open Go.RowKit

theorem hide {p : Prop} (h : p) : Hid p := h
theorem unhide {p : Prop} (h : Hid p) : p := h

/-! The map that a caller lays with one entry, and what is looked up in it. -/
theorem check9 (w : World) (b : Bool) (k : ByteArray) : (Instr.checkKey b 10000 9 (.string k)).run Tryf.prog w = .ok () w := by
  rw [show (10000 : Nat) = 9999 + 1 from rfl, Instr.checkKey]
  simp [run_underlying Tryf.underlying9]

theorem run_put (w : World) (k : ByteArray) (v : Value) : (Instr.mapUpdate 35 (.map (some w.heap.size)) (.string k) v).run Tryf.prog (w.alloc (.map #[] 0)) = .ok () (w.alloc (.map #[⟨.string k, v, 0⟩] 1)) := by
  have hb : (w.alloc (.map #[] 0)).heap[w.heap.size]? = some (.map #[] 0) := by show (w.heap.push _)[w.heap.size]? = _; simp
  simp [Instr.mapUpdate, run_underlying Tryf.underlying35, MapKept.run_getObj_map hb, check9, run_underlying Tryf.underlying9, Instr.findKey, Instr.findNow, MapKept.run_setObj_map _ hb, Result.andThen]
  show ({ w with heap := (w.heap.push _).setIfInBounds w.heap.size _ } : World) = { w with heap := w.heap.push _ }
  rw [show ∀ (a : Array Obj) (x y : Obj), (a.push x).setIfInBounds a.size y = a.push y from fun a x y => by apply Array.ext' ; simp]

theorem bytes_beq_self (k : ByteArray) : (k == k) = true := by
  cases k with | mk d => show (d == d) = true; simp

theorem run_look_hit (w : World) (m : Nat) (k : ByteArray) (v : Value) (b c : Nat) (hb : w.heap[m]? = some (.map #[⟨.string k, v, b⟩] c)) :
    (Instr.lookup 35 (.map (some m)) (.string k) false).run Tryf.prog w = .ok v w := by
  simp [Instr.lookup, run_underlying Tryf.underlying35, MapKept.run_getObj_map hb, check9, run_underlying Tryf.underlying9, Instr.findKey, Instr.findNow, Instr.sameNow, Result.andThen, bytes_beq_self k]

theorem run_look_miss (w : World) (m : Nat) (k k' : ByteArray) (v : Value) (b c : Nat) (hb : w.heap[m]? = some (.map #[⟨.string k, v, b⟩] c)) (hk : (k' == k) = false) :
    (Instr.lookup 35 (.map (some m)) (.string k') false).run Tryf.prog w = .ok .nilIface w := by
  have hz : (zeroValue 20).run Tryf.prog w = .ok .nilIface w := by kernel_rfl
  simp [Instr.lookup, run_underlying Tryf.underlying35, MapKept.run_getObj_map hb, check9, run_underlying Tryf.underlying9, Instr.findKey, Instr.findNow, Instr.sameNow, Result.andThen, hz, hk]

/-! The type assertions of the type switch. -/
theorem as_str (s : Value) (w : World) : (Instr.typeAssert (.iface 9 s) 20 9 true).run Tryf.prog w = .ok (.tuple #[s, .bool true]) w := by kernel_rfl
theorem as_str_row (s : Value) (w : World) : (Instr.typeAssert (.iface 36 s) 20 9 true).run Tryf.prog w = .ok (.tuple #[.string ⟨#[]⟩, .bool false]) w := by kernel_rfl
theorem as_str_num (s : Value) (w : World) : (Instr.typeAssert (.iface 29 s) 20 9 true).run Tryf.prog w = .ok (.tuple #[.string ⟨#[]⟩, .bool false]) w := by kernel_rfl
theorem as_row (s : Value) (w : World) : (Instr.typeAssert (.iface 36 s) 20 36 true).run Tryf.prog w = .ok (.tuple #[s, .bool true]) w := by kernel_rfl
theorem as_row_num (s : Value) (w : World) : (Instr.typeAssert (.iface 29 s) 20 36 true).run Tryf.prog w = .ok (.tuple #[.slice none 0 0, .bool false]) w := by kernel_rfl

/-! The row that a loop fills, cell by cell. -/
def filled (f : Nat → Value) (z : Value) (n k : Nat) : List Value := (List.range k).map f ++ List.replicate (n - k) z
theorem filled_zero (f : Nat → Value) (z : Value) (n : Nat) : filled f z n 0 = List.replicate n z := by simp [filled]
theorem filled_all (f : Nat → Value) (z : Value) (n : Nat) : filled f z n n = (List.range n).map f := by simp [filled]
theorem filled_get (f : Nat → Value) (z : Value) (n k : Nat) (h : k < n) : (filled f z n k)[k]? = some z := by
  unfold filled
  rw [List.getElem?_append_right (by simp), List.length_map, List.length_range, Nat.sub_self, List.getElem?_replicate, if_pos (by omega)]
theorem filled_set (f : Nat → Value) (z : Value) (n k : Nat) (h : k < n) : (filled f z n k).set k (f k) = filled f z n (k + 1) := by
  unfold filled
  rw [List.set_append_right _ _ (by simp)]
  have hr : List.replicate (n - k) z = z :: List.replicate (n - (k + 1)) z := by rw [show n - k = (n - (k + 1)) + 1 by omega, List.replicate_succ]
  rw [hr, List.range_succ]
  simp
theorem filled_done (f : Nat → Value) (z : Value) (n j : Nat) (h : j < n) : (filled f z n n)[j]? = some (f j) := by
  rw [filled_all]
  simp [h]
end Go.Proofs.Qxb6614376aFmt
