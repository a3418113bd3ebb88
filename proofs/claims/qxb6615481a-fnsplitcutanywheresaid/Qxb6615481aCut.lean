import Derived.Test.Qxb6615481aHold
import Derived.Deep.RegionLaw
namespace Go.Proofs.Qxb6615481a
open Go.RowKit

/-- The call's own strings: a slice at block g, n long, that holds l. -/
def OwnS (w0 : World) (B : Nat) (w : World) (g n cap : Nat) (l : List ByteArray) : Prop :=
  n = l.length ∧ w.ownsRow B 9 1 (.slice (some ⟨g, 0, none⟩) n cap) n (l.map Value.string) ∧ Below B w0 w ∧ B ≤ w.heap.size

theorem OwnS.drew {w0 w : World} {B g n cap : Nat} {l : List ByteArray} (h : OwnS w0 B w g n cap l) : OwnS w0 B w.drew g n cap l := ⟨h.1, h.2.1.drew, h.2.2.1.drew, h.2.2.2⟩

theorem OwnS.row {w0 w : World} {B g n cap : Nat} {l : List ByteArray} (h : OwnS w0 B w g n cap l) : RowIn w g l := by
  obtain ⟨rfl, ho, _, _⟩ := h
  refine ⟨(ho.lt g rfl).2, fun j s hj => ?_⟩
  have hjl : j < l.length := (List.getElem?_eq_some_iff.1 hj).1
  rw [ho.cellAt j (by omega), List.getElem?_map, hj]
  rfl

/-- One string appended, its block just laid. -/
theorem push_s (x : ByteArray) (w0 wr : World) (B g n cap : Nat) (l : List ByteArray) (hm : n ≤ 4194304) (h : OwnS w0 B wr g n cap l) :
    ∃ g' cap' w', (∀ ty, (Builtin.append_ #[24, 24] ty #[.slice (some ⟨g, 0, none⟩) n cap, .slice (some ⟨wr.heap.size, 0, none⟩) 1 1]).run Try.prog (wr.alloc (.cells #[.string x] 9)) = .ok (.slice (some ⟨g', 0, none⟩) (n + 1) cap') w') ∧ OwnS w0 B w' g' (n + 1) cap' (l ++ [x]) := by
  obtain ⟨hn, hown, hbw, hB⟩ := h
  obtain ⟨g', cap', w', hrun, ho, hgr, _, _⟩ := run_append_lies (P := Try.prog) (wr.alloc (.cells #[.string x] 9)) 24 24 B 9 Try.t9 (.string ⟨#[]⟩) 1 16 Try.underlying24 (by kernel_rfl) rfl rfl rfl rfl (by omega)
    (.slice (some ⟨g, 0, none⟩) n cap) n (l.map Value.string) (hown.alloc _) ⟨wr.heap.size, 0, none⟩ 1 1 [.string x] rfl (cell_one_new _ _ _) (by simp; rfl) (by omega) (by unfold maxLen; omega) (by omega) (by simp; omega) _ rfl
  rw [show l.map Value.string ++ [.string x] = (l ++ [x]).map Value.string by simp] at ho
  refine ⟨g', cap', w', fun ty => hrun, by simp [hn], ho, ?_, ?_⟩
  · exact (hbw.alloc hB _).grown hgr (by simp; omega) (fun k hk => by have := hown.lt k (by simpa using hk); exact this.1)
  · have := hgr.size; simp at this; omega

/-- An append whose run is known, as one step of a region that draws. -/
theorem step_append_run {P : Program} {ops : Array Oper} {o : Oper} {a : Act} {w : World} {K : Act → World → Prop} {Q : Exit → Act → World → Prop} {E : Prop}
    (hg : o.guard = none) (s x : Operand) (t : TypeId) (hop : o.op = Op.call { callee := Callee.builtin Builtin.append, args := #[s, x], argTypes := #[t, t] })
    (v vx : Value) (hs : a.eval s = v) (hx : a.eval x = vx) (v' : Value) (w' : World) (hr : ∀ ty, (Builtin.append_ #[t, t] ty #[v, vx]).run P w = .ok v' w') (hK : K (a.put o.dst v') w') :
    if Region.wanted o (yielded ops a.tmps) = true then Oper.wp P o a w K Q else E := by
  have hw : Region.wanted o (yielded ops a.tmps) = true := by simp [Region.wanted, hg]
  rw [if_pos hw]
  unfold Oper.wp
  simp [execOp, hop, resolve, invoke, builtin, hs, hx, hr, Result.andThen]
  exact hK

theorem nm_le (s : ByteArray) : (nm s).length ≤ s.size := by
  rw [nm_length]
  have := begins_le s.data.toList true
  simpa using this

theorem left_list (s : ByteArray) (k : Nat) : (s.extract 0 k).data.toList = s.data.toList.take k := by
  rw [ByteArray.data_extract, Array.toList_extract]
  simp [List.extract]
theorem right_list (s : ByteArray) (k : Nat) : (s.extract k s.size).data.toList = s.data.toList.drop k := by
  rw [ByteArray.data_extract, Array.toList_extract]
  have : s.data.toList.length = s.size := by simp
  rw [List.extract, List.take_of_length_le (by simp)]

theorem nm_cut (s : ByteArray) (k : Nat) : nm s = (names (s.data.toList.take k ++ s.data.toList.drop k)).map mkStr := by
  rw [List.take_append_drop]
  rfl

theorem nm_apart (s : ByteArray) (k : Nat) (h : glued (s.data.toList.take k) (s.data.toList.drop k) = false) : nm s = nm (s.extract 0 k) ++ nm (s.extract k s.size) := by
  rw [nm_cut s k, names_apart _ _ h, List.map_append]
  unfold nm
  rw [left_list, right_list]

theorem mkStr_append (x y : List UInt8) : mkStr (x ++ y) = mkStr x ++ mkStr y := by
  unfold mkStr
  apply ByteArray.ext
  rw [ByteArray.data_append]
  simp

theorem nm_glued (s : ByteArray) (k : Nat) (h : glued (s.data.toList.take k) (s.data.toList.drop k) = true) :
    ∃ (E : List ByteArray) (x y : ByteArray) (T : List ByteArray), nm (s.extract 0 k) = E ++ [x] ∧ nm (s.extract k s.size) = y :: T ∧ nm s = E ++ (x ++ y) :: T := by
  obtain ⟨E, x, y, T, h1, h2, h3⟩ := names_glued _ _ h
  refine ⟨E.map mkStr, mkStr x, mkStr y, T.map mkStr, ?_, ?_, ?_⟩
  · unfold nm; rw [left_list, h1]; simp
  · unfold nm; rw [right_list, h2]; simp
  · rw [nm_cut s k, h3]; simp [mkStr_append]
end Go.Proofs.Qxb6615481a
