import Derived.Test.Qxb6615481aRows
import Derived.Test.Qxb6615481aLays
import Derived.Test.Qxb6615481aFields
import Derived.Shelf.Strings.FieldsFuncAny
import Derived.WalkKit
import Derived.WalkSpells
import Derived.WalkLawsBesides
import Derived.Deep.QuietTactic
import Derived.BigQuiet
namespace Go.Proofs.Qxb6615481a
open Go.RowKit Go.Shelf Go.Lib

theorem hide {p : Prop} (h : p) : Hid p := h
theorem unhide {p : Prop} (h : Hid p) : p := h

/-- A row of strings in a block, from its first cell on. -/
def RowIn (w : World) (B : Nat) (l : List ByteArray) : Prop := B < w.heap.size ∧ ∀ j s, l[j]? = some s → w.cell? ⟨B, j, none⟩ = some (.string s)

theorem RowIn.below {w w' : World} {B : Nat} {l : List ByteArray} (h : RowIn w B l) (hb : Below w.heap.size w w') : RowIn w' B l :=
  ⟨Nat.lt_of_lt_of_le h.1 hb.size, fun j s hj => (hb.cell (p := ⟨B, j, none⟩) h.1).trans (h.2 j s hj)⟩

/-- The names of a text, as strings. -/
def nm (s : ByteArray) : List ByteArray := (names s.data.toList).map mkStr

set_option maxRecDepth 100000 in
theorem clo_pays (w : World) : PredAt Try.prog 12 #[] encR slash w := by
  intro W x hb
  unfold FnGives
  show Calls Try.prog 12 #[.int .i32 (x : Int)] W _
  have hs : slash x = ((x : Int) == 47) := by
    unfold slash
    rw [Bool.eq_iff_iff]
    simp
    omega
  rw [hs]
  go_enter Try.func12, Try.ntmps12
  go_wp2
  go_ret
  exact ⟨rfl, 0, rfl⟩

set_option maxRecDepth 100000 in
set_option maxHeartbeats 400000 in
theorem split10 (s : ByteArray) (w : World) (hs : s.size ≤ 4294967296) :
    Calls Try.prog 10 #[.string s] w fun e w' => ∃ A, e = .returned (.slice (some ⟨A, 0, none⟩) (nm s).length (nm s).length) ∧ RowIn w' A (nm s) ∧ Below w.heap.size w w' := by
  have cF : Calls Try.prog 11 #[.string s, .func (.func 12) #[] #[]] w _ := Any.strings_FieldsFunc Try.laysFF 12 #[] (enters_of Try.func12 (by kernel_rfl) rfl) slash s w hs (clo_pays w) (by kernel_rfl) (by kernel_rfl)
  rw [fields_names s] at cF
  change Calls Try.prog 11 #[.string s, .func (.func 12) #[] #[]] w (fun e w' => ∃ A, e = .returned (.slice (some ⟨A, 0, none⟩) (nm s).length (nm s).length) ∧ w.heap.size ≤ A ∧
      w'.ownsRow w.heap.size 9 1 (.slice (some ⟨A, 0, none⟩) (nm s).length (nm s).length) (nm s).length ((nm s).map Value.string) ∧ Below w.heap.size w w') at cF
  have HC := hide cF
  clear cF
  generalize nm s = FS at *
  go_enter Try.func10, Try.ntmps10
  go_wp2_with fail
  refine (unhide HC).mono ?_
  rintro e w' ⟨A, rfl, hA, hown, hb⟩
  have hrow : RowIn w' A FS := ⟨(hown.lt A rfl).2, fun j s hj => by
    have hjl : j < FS.length := (List.getElem?_eq_some_iff.1 hj).1
    rw [hown.cellAt j (by omega), List.getElem?_map, hj]
    rfl⟩
  have HR := hide hrow
  clear hown hrow
  go_wp2
  go_ret
  exact ⟨A, rfl, unhide HR, hb⟩

set_option maxRecDepth 100000 in
set_option maxHeartbeats 400000 in
theorem split_any (s : ByteArray) (w : World) (hs : s.size ≤ 4294967296) :
    Calls Try.prog 6 #[.string s] w fun e w' => ∃ A, e = .returned (.slice (some ⟨A, 0, none⟩) (nm s).length (nm s).length) ∧ RowIn w' A (nm s) ∧ Below w.heap.size w w' := by
  have HC := hide (split10 s w hs)
  generalize nm s = FS at *
  go_enter Try.func6, Try.ntmps6
  go_wp2_with fail
  refine (unhide HC).mono ?_
  rintro e w' ⟨A, rfl, hrow, hb⟩
  have HR := hide hrow
  clear hrow
  go_wp2
  go_ret
  exact ⟨A, rfl, unhide HR, hb⟩

/-- It returns a bool, whichever. -/
def AnyBool (e : Ending) : Prop := ∃ r, e = .returned (.bool r)

set_option maxRecDepth 100000 in
set_option maxHeartbeats 400000 in
theorem bytes5 (a : ByteArray) (w : World) (ha : a.size ≤ maxLen) : Calls Try.prog 5 #[.string a] w fun e w' => AnyBool e ∧ w' = w := by
  unfold maxLen at ha
  go_enter Try.func5, Try.ntmps5
  go_wp2
  all_goals (go_ret; exact ⟨⟨_, rfl⟩, rfl⟩)

set_option maxRecDepth 100000 in
set_option maxHeartbeats 400000 in
theorem bytes8 (a : ByteArray) (k : Int) (w : World) (ha : a.size ≤ maxLen) : Calls Try.prog 8 #[.string a, .int .i64 k] w fun e w' => AnyBool e ∧ w' = w := by
  unfold maxLen at ha
  go_enter Try.func8, Try.ntmps8
  go_wp2
  all_goals (go_ret; exact ⟨⟨_, rfl⟩, rfl⟩)

set_option maxRecDepth 100000 in
set_option maxHeartbeats 400000 in
/-- Two slices that hold the same strings. -/
theorem same_any (A B n ca cb : Nat) (l : List ByteArray) (w : World) (hl : l.length = n) (hn : n ≤ 4294967296) (ha : RowIn w A l) (hb : RowIn w B l) :
    Calls Try.prog 7 #[.slice (some ⟨A, 0, none⟩) n ca, .slice (some ⟨B, 0, none⟩) n cb] w fun e w' => e = .returned (.bool true) ∧ ∃ q, w' = w.drewN q := by
  have HA := hide ha
  have HB := hide hb
  have HL := hide hl
  clear ha hb hl
  go_enter Try.func7, Try.ntmps7
  go_wp2
  go_loopw [5] (fun i wr => ∃ k nq : Nat, k ≤ n ∧ i = .int .i64 k ∧ wr = w.drewN nq) (fun i _ => n - (intOf i).toNat)
  case atStart => exact ⟨0, 0, Nat.zero_le _, rfl, rfl⟩
  case round =>
    obtain ⟨k, nq, hk, rfl, rfl⟩ := hrel
    by_cases hlt : k < n
    · have hkl : k < l.length := by rw [unhide HL]; exact hlt
      have hx := (unhide HA).2 k l[k] (List.getElem?_eq_getElem hkl)
      have hy := (unhide HB).2 k l[k] (List.getElem?_eq_getElem hkl)
      generalize l[k] = sk at hx hy
      clear hkl
      go_wp2
      go_quiet (fail)
      go_wp2
      go_roundw
      case rel => exact ⟨k + 1, _, by omega, by go_num, rfl⟩
      case measure => simp [intOf]; omega
    · go_wp2
      go_ret
      exact ⟨rfl, _, rfl⟩
end Go.Proofs.Qxb6615481a
