import Derived.Test.Qxb6615060aRows
import Derived.WalkKit
import Derived.WalkSpells
import Derived.WalkLawsBesides
namespace Go.Proofs.Qxb6615060a
open Go.RowKit

theorem hide {p : Prop} (h : p) : Hid p := h
theorem unhide {p : Prop} (h : Hid p) : p := h

/-- A build at block B whose job is j. -/
def HasJob (w : World) (B : Nat) (j : ByteArray) : Prop := B < w.heap.size ∧ w.cell? ⟨B, 5, none⟩ = some (.string j)

theorem HasJob.below {w w' : World} {B : Nat} {j : ByteArray} (h : HasJob w B j) (hb : Below w.heap.size w w') : HasJob w' B j :=
  ⟨Nat.lt_of_lt_of_le h.1 hb.size, (hb.cell (p := ⟨B, 5, none⟩) h.1).trans h.2⟩

/-- It returns a bool, whichever. -/
def AnyBool (e : Ending) : Prop := ∃ r, e = .returned (.bool r)

set_option maxRecDepth 100000 in
set_option maxHeartbeats 400000 in
theorem new_any (s0 s1 s2 j s6 s7 s8 s9 s10 s11 : ByteArray) (i3 i4 : Int) (ao : Option Addr) (n c : Nat) (w : World) :
    Calls Try.prog 9 #[.agg #[.string s0, .string s1, .string s2, .int .i64 i3, .int .i64 i4, .string j, .string s6, .string s7, .string s8, .string s9, .string s10, .string s11], .slice ao n c] w
      fun e w' => ∃ B, e = .returned (.pointer (some ⟨B, 0, none⟩)) ∧ HasJob w' B j ∧ Below w.heap.size w w' := by
  go_enter Try.func9, Try.ntmps9
  go_wp2
  go_ret
  exact ⟨w.heap.size + 1, rfl, ⟨by simp, (World.cell?_alloc_at _ _ _ _ (by simp)).trans rfl⟩, ((Below.refl _ _).alloc (by simp) _).alloc (by simp) _⟩

/-- What the build's Gearman function is: the six bytes that open it, then the job. -/
def pre : ByteArray := ⟨#[98, 117, 105, 108, 100, 58]⟩

set_option maxRecDepth 100000 in
set_option maxHeartbeats 400000 in
theorem call_any (B : Nat) (j : ByteArray) (w : World) (h : HasJob w B j) (hj : j.size ≤ 1048576) :
    Calls Try.prog 8 #[.pointer (some ⟨B, 0, none⟩)] w fun e w' => e = .returned (.string (pre ++ j)) ∧ w' = w := by
  obtain ⟨h1, h2⟩ := h
  go_enter Try.func8, Try.ntmps8
  go_wp2
  go_ret
  exact ⟨rfl, rfl⟩

set_option maxRecDepth 100000 in
set_option maxHeartbeats 400000 in
theorem bytes7 (a b : ByteArray) (w : World) (ha : a.size ≤ maxLen) (hb : b.size ≤ maxLen) : Calls Try.prog 7 #[.string a, .string b] w fun e w' => AnyBool e ∧ w' = w := by
  unfold maxLen at ha hb
  go_enter Try.func7, Try.ntmps7
  go_wp2
  all_goals (go_ret; exact ⟨⟨_, rfl⟩, rfl⟩)

set_option maxRecDepth 100000 in
set_option maxHeartbeats 400000 in
theorem bytes10 (a b c d e f g : ByteArray) (x y : Int) (w : World) (ha : a.size ≤ maxLen) (hb : b.size ≤ maxLen) (hc : c.size ≤ maxLen) (hd : d.size ≤ maxLen) (he : e.size ≤ maxLen) (hf : f.size ≤ maxLen) (hg : g.size ≤ maxLen) :
    Calls Try.prog 10 #[.string a, .string b, .string c, .string d, .string e, .string f, .string g, .int .i64 x, .int .i64 y] w fun e w' => AnyBool e ∧ w' = w := by
  unfold maxLen at ha hb hc hd he hf hg
  go_enter Try.func10, Try.ntmps10
  go_wp2
  all_goals (go_ret; exact ⟨⟨_, rfl⟩, rfl⟩)
end Go.Proofs.Qxb6615060a
