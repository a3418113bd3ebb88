import Derived.Test.Qxb6614376aFmtCards
import Derived.WalkKit
import Derived.WalkSpells
import Derived.WalkLawsBesides
namespace Go.Proofs.Qxb6614376aFmt
open Go.RowKit

/-- A slice of strings as the walks read it: no element, whatever it points to; or n cells of strings from an offset on. -/
def StrRow (w : World) (v : Value) (n : Nat) (ss : Nat → ByteArray) : Prop :=
  (∃ ao cap, v = .slice ao 0 cap ∧ n = 0) ∨
  (∃ b off cap, v = .slice (some ⟨b, off, none⟩) n cap ∧ b < w.heap.size ∧ ∀ j, j < n → w.cell? ⟨b, off + j, none⟩ = some (.string (ss j)))

/-- It returns false; or true, and then p. -/
def BoolIf (e : Ending) (p : Prop) : Prop := e = .returned (.bool false) ∨ (e = .returned (.bool true) ∧ p)

theorem all_next {ss : Nat → ByteArray} {k : Nat} {B : Nat} (h : ∀ j, j < k → (ss j).size ≤ B) (hk : (ss k).size ≤ B) : ∀ j, j < k + 1 → (ss j).size ≤ B := fun j hj => by
  by_cases e : j = k
  · rw [e]; exact hk
  · exact h j (by omega)

set_option maxRecDepth 100000 in
set_option maxHeartbeats 400000 in
theorem bytes5_some (s : ByteArray) (b off n cap : Nat) (ss : Nat → ByteArray) (w : World) (hn : n ≤ maxLen) (hs : s.size ≤ maxLen) (hss : ∀ j, j < n → (ss j).size ≤ maxLen)
    (hc : ∀ j, j < n → w.cell? ⟨b, off + j, none⟩ = some (.string (ss j))) :
    Calls Tryf.prog 5 #[.string s, .slice (some ⟨b, off, none⟩) n cap] w fun e w' => BoolIf e (∀ j, j < n → (ss j).size ≤ 1048576) ∧ w' = w := by
  unfold maxLen at hn hs
  by_cases h1 : (s.size : Int) > 1048576
  · go_enter Tryf.func5, Tryf.ntmps5
    go_wp2
    go_ret
    exact ⟨.inl rfl, rfl⟩
  by_cases h2 : (n : Int) > 1048576
  · go_enter Tryf.func5, Tryf.ntmps5
    go_wp2
    go_ret
    exact ⟨.inl rfl, rfl⟩
  by_cases h3 : (s.size : Int) + n > 1048576
  · go_enter Tryf.func5, Tryf.ntmps5
    go_wp2
    go_ret
    exact ⟨.inl rfl, rfl⟩
  go_enter Tryf.func5, Tryf.ntmps5
  go_wp2
  go_loop [5, 6] (fun t i => ∃ (k : Nat) (z : Int), k ≤ n ∧ 0 ≤ z ∧ z ≤ 1048576 ∧ i = .int .i64 k ∧ t = .int .i64 z ∧ Hid (∀ j, j < k → (ss j).size ≤ 1048576)) (fun _ i => n - (intOf i).toNat)
  case atStart => exact ⟨0, _, Nat.zero_le _, by omega, by omega, rfl, rfl, fun j hj => by omega⟩
  case round =>
    obtain ⟨k, z, hk, hz0, hz1, rfl, rfl, hall⟩ := hrel
    by_cases hlt : k < n
    · have hck := hc k hlt
      have hsk := hss k hlt
      unfold maxLen at hsk
      have HN : Hid ((ss k).size ≤ 1048576 → ∀ j, j < k + 1 → (ss j).size ≤ 1048576) := fun h => all_next hall.out h
      generalize ss k = sk at hck hsk HN
      clear hc hss hall
      go_wp2
      · go_ret
        exact ⟨.inl rfl, rfl⟩
      · go_ret
        exact ⟨.inl rfl, rfl⟩
      · go_round
        case rel => exact ⟨k + 1, _, by omega, by omega, by omega, by go_num, rfl, HN.out (by omega)⟩
        case measure => simp [intOf]; omega
    · obtain rfl : k = n := by omega
      clear hc hss
      go_wp2
      go_ret
      exact ⟨.inr ⟨rfl, hall.out⟩, rfl⟩

set_option maxRecDepth 100000 in
set_option maxHeartbeats 400000 in
theorem bytes5_none (s : ByteArray) (ss : Nat → ByteArray) (ao : Option Addr) (cap : Nat) (w : World) (hs : s.size ≤ maxLen) :
    Calls Tryf.prog 5 #[.string s, .slice ao 0 cap] w fun e w' => BoolIf e (∀ j, j < 0 → (ss j).size ≤ 1048576) ∧ w' = w := by
  unfold maxLen at hs
  by_cases h1 : (s.size : Int) > 1048576
  · go_enter Tryf.func5, Tryf.ntmps5
    go_wp2
    go_ret
    exact ⟨.inl rfl, rfl⟩
  go_enter Tryf.func5, Tryf.ntmps5
  go_wp2
  refine wp_loop_rounds 1 ?_
  rw [rounds_succ]
  go_wp2
  go_ret
  exact ⟨.inr ⟨rfl, fun j hj => by omega⟩, rfl⟩

theorem bytes5 (s : ByteArray) (v : Value) (n : Nat) (ss : Nat → ByteArray) (w : World) (hn : n ≤ maxLen) (hs : s.size ≤ maxLen) (hss : ∀ j, j < n → (ss j).size ≤ maxLen)
    (hr : StrRow w v n ss) : Calls Tryf.prog 5 #[.string s, v] w fun e w' => BoolIf e (∀ j, j < n → (ss j).size ≤ 1048576) ∧ w' = w := by
  rcases hr with ⟨ao, cap, rfl, rfl⟩ | ⟨b, off, cap, rfl, _, hc⟩
  · exact bytes5_none s ss ao cap w hs
  · exact bytes5_some s b off n cap ss w hn hs hss hc

set_option maxRecDepth 100000 in
set_option maxHeartbeats 400000 in
theorem bytes8_some (b off n cap : Nat) (q : Int) (f : Nat) (ss : Nat → ByteArray) (w : World) (hn : n ≤ maxLen) (hss : ∀ j, j < n → (ss j).size ≤ maxLen)
    (hc : ∀ j, j < n → w.cell? ⟨b, off + j, none⟩ = some (.string (ss j))) :
    Calls Tryf.prog 8 #[.slice (some ⟨b, off, none⟩) n cap, .int .i64 q, .float .f64 f] w fun e w' => BoolIf e (∀ j, j < n → (ss j).size ≤ 1048576) ∧ w' = w := by
  unfold maxLen at hn
  by_cases h2 : (n : Int) > 1048576
  · go_enter Tryf.func8, Tryf.ntmps8
    go_wp2
    go_ret
    exact ⟨.inl rfl, rfl⟩
  go_enter Tryf.func8, Tryf.ntmps8
  go_wp2
  go_loop [7, 8] (fun t i => ∃ (k : Nat) (z : Int), k ≤ n ∧ 0 ≤ z ∧ z ≤ 1048576 ∧ i = .int .i64 k ∧ t = .int .i64 z ∧ Hid (∀ j, j < k → (ss j).size ≤ 1048576)) (fun _ i => n - (intOf i).toNat)
  case atStart => exact ⟨0, _, Nat.zero_le _, by omega, by omega, rfl, rfl, fun j hj => by omega⟩
  case round =>
    obtain ⟨k, z, hk, hz0, hz1, rfl, rfl, hall⟩ := hrel
    by_cases hlt : k < n
    · have hck := hc k hlt
      have hsk := hss k hlt
      unfold maxLen at hsk
      have HN : Hid ((ss k).size ≤ 1048576 → ∀ j, j < k + 1 → (ss j).size ≤ 1048576) := fun h => all_next hall.out h
      generalize ss k = sk at hck hsk HN
      clear hc hss hall
      go_wp2
      · go_ret
        exact ⟨.inl rfl, rfl⟩
      · go_ret
        exact ⟨.inl rfl, rfl⟩
      · go_round
        case rel => exact ⟨k + 1, _, by omega, by omega, by omega, by go_num, rfl, HN.out (by omega)⟩
        case measure => simp [intOf]; omega
    · obtain rfl : k = n := by omega
      clear hc hss
      go_wp2
      go_ret
      exact ⟨.inr ⟨rfl, hall.out⟩, rfl⟩

set_option maxRecDepth 100000 in
set_option maxHeartbeats 400000 in
theorem bytes8_none (ss : Nat → ByteArray) (ao : Option Addr) (cap : Nat) (q : Int) (f : Nat) (w : World) :
    Calls Tryf.prog 8 #[.slice ao 0 cap, .int .i64 q, .float .f64 f] w fun e w' => BoolIf e (∀ j, j < 0 → (ss j).size ≤ 1048576) ∧ w' = w := by
  go_enter Tryf.func8, Tryf.ntmps8
  go_wp2
  refine wp_loop_rounds 1 ?_
  rw [rounds_succ]
  go_wp2
  go_ret
  exact ⟨.inr ⟨rfl, fun j hj => by omega⟩, rfl⟩

theorem bytes8 (v : Value) (q : Int) (f : Nat) (n : Nat) (ss : Nat → ByteArray) (w : World) (hn : n ≤ maxLen) (hss : ∀ j, j < n → (ss j).size ≤ maxLen)
    (hr : StrRow w v n ss) : Calls Tryf.prog 8 #[v, .int .i64 q, .float .f64 f] w fun e w' => BoolIf e (∀ j, j < n → (ss j).size ≤ 1048576) ∧ w' = w := by
  rcases hr with ⟨ao, cap, rfl, rfl⟩ | ⟨b, off, cap, rfl, _, hc⟩
  · exact bytes8_none ss ao cap q f w
  · exact bytes8_some b off n cap q f ss w hn hss hc
end Go.Proofs.Qxb6614376aFmt
