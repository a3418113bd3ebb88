import Derived.Test.Qxb6614376aFmtCopy
import Derived.Deep.QuietTactic
import Derived.BigQuiet
namespace Go.Proofs.Qxb6614376aFmt
open Go.RowKit

set_option maxRecDepth 100000 in
set_option maxHeartbeats 1000000 in
/-- xs is not nil. -/
theorem reads_some (s : ByteArray) (a : Addr) (n cap : Nat) (ss : Nat → ByteArray) (w : World) (hn : n ≤ maxLen) (hs : s.size ≤ maxLen) (hss : ∀ j, j < n → (ss j).size ≤ maxLen)
    (hr : StrRow w (.slice (some a) n cap) n ss) :
    Calls Tryf.prog 3 #[.string s, .slice (some a) n cap] w fun e w' => e = .returned (.bool true) ∧ Below w.heap.size w w' := by
  have h5 := hide (bytes5 s (.slice (some a) n cap) n ss w hn hs hss hr)
  unfold maxLen at hn hs
  by_cases h1 : (s.size : Int) > 1048576
  · go_enter Tryf.func3, Tryf.ntmps3
    go_wp2_with (go_at_call 5; refine (unhide h5).mono ?_; rintro e w' ⟨(rfl | ⟨rfl, _⟩), rfl⟩)
    all_goals (go_wp2; go_ret; exact ⟨rfl, Below.refl _ _⟩)
  by_cases h2 : (n : Int) > 65536
  · go_enter Tryf.func3, Tryf.ntmps3
    go_wp2_with (go_at_call 5; refine (unhide h5).mono ?_; rintro e w' ⟨(rfl | ⟨rfl, _⟩), rfl⟩)
    all_goals (go_wp2; go_ret; exact ⟨rfl, Below.refl _ _⟩)
  obtain ⟨w1, w2, hmk, hcp, hrow, hbel⟩ := make_copy a n cap ss w (by omega) hr
  have HR := hide hrow
  have d1 : decide (1048576 < (s.size : Int)) = false := by simp; omega
  have d2 : decide (65536 < (n : Int)) = false := by simp; omega
  have hn0 := fun w => run_neq_slice_nil_any (P := Tryf.prog) w 22 9 (some a) n cap 0 0 Tryf.underlying22
  clear hss hr hrow
  go_enter Tryf.func3, Tryf.ntmps3
  go_wp2_with (go_at_call 5; refine (unhide h5).mono ?_; rintro e w' ⟨(rfl | ⟨rfl, hall⟩), rfl⟩)
  · go_wp2
    go_ret
    exact ⟨rfl, Below.refl _ _⟩
  have HA := hide hall
  clear hall
  go_wp2
  go_loop [6, 7] (fun t i => ∃ (k : Nat) (z : Int), k ≤ n ∧ 0 ≤ z ∧ z ≤ 1048576 ∧ i = .int .i64 k ∧ t = .int .i64 z) (fun _ i => n - (intOf i).toNat)
  case atStart => exact ⟨0, _, Nat.zero_le _, by omega, by omega, rfl, rfl⟩
  case round =>
    obtain ⟨k, z, hk, hz0, hz1, rfl, rfl⟩ := hrel
    clear hmk hcp hn0
    by_cases hlt : k < n
    · have hck := (unhide HR).2 k hlt
      have hsk := (unhide HA) k hlt
      go_wp2
      · go_ret
        exact ⟨rfl, hbel⟩
      · go_round
        case rel => exact ⟨k + 1, _, by omega, by omega, by omega, by go_num, rfl⟩
        case measure => simp [intOf]; omega
    · obtain rfl : k = n := by omega
      go_wp2_with (go_at_call 6; refine (of_string s _).mono ?_; rintro e w3 ⟨rfl, rfl⟩)
      refine (of_array _ k ss _ (by omega) (((unhide HR).below (((Below.refl _ _).alloc (Nat.le_refl _) _).alloc (by simp) _)).row k)).mono ?_
      rintro e w4 ⟨B4, rfl, hB4, hc4, hb4⟩
      have hone : w4.cell? ⟨w2.heap.size + 1, 0, none⟩ = some (.string s) := (hb4.cell (p := ⟨w2.heap.size + 1, 0, none⟩) (by simp)).trans (by simp)
      have hrow4 := ((unhide HR).below (((Below.refl _ _).alloc (Nat.le_refl _) _).alloc (by simp) _)).below hb4
      have HR4 := hide hrow4
      have HA4 := hide hc4
      have hbel4 : Below w'.heap.size w' w4 := (hbel.alloc hbel.size _).alloc (by have := hbel.size; simp; omega) _ |>.trans (hb4.mono (by have := hbel.size; simp; omega))
      have HB := hide hbel4
      have hn1 := fun w => Lib.run_eql_slice_nil (P := Tryf.prog) w 22 9 (some ⟨B4, 0, none⟩) k k 0 0 Tryf.underlying22
      have HL : Hid (w2.heap.size + 1 < w4.heap.size) := by have := hb4.size; simp at this; exact (by omega : w2.heap.size + 1 < w4.heap.size)
      clear hc4 hb4 hrow4 hbel4 hbel
      go_wp2
      go_loopw [12] (fun i wr => ∃ q nq : Nat, q ≤ k ∧ i = .int .i64 q ∧ wr = w4.drewN nq) (fun i _ => k - (intOf i).toNat)
      case atStart => exact ⟨0, 0, Nat.zero_le _, rfl, rfl⟩
      case round =>
        obtain ⟨q, nq, hq, rfl, rfl⟩ := hrel
        by_cases hlt2 : q < k
        · have hx := (unhide HR4).2 q hlt2
          have hy := (unhide HA4) q hlt2
          go_wp2
          go_quiet (fail)
          go_wp2
          go_roundw
          case rel => exact ⟨q + 1, _, by omega, by go_num, rfl⟩
          case measure => simp [intOf]; omega
        · obtain rfl : q = k := by omega
          have hnew : RowIn ((w4.drewN nq).alloc (.cells #[.string s] 9)) w4.heap.size 1 (fun _ => s) := ⟨by simp, fun j hj => by
            obtain rfl : j = 0 := by omega
            exact World.cell?_alloc_at _ _ _ _ rfl⟩
          have HN := hide hnew
          clear hnew
          go_wp2_with fail
          refine (of_array _ 1 (fun _ => s) _ (by omega) ((unhide HN).row 1)).mono ?_
          rintro e w5 ⟨B5, rfl, hB5, hc5, hb5⟩
          have hlt5 : w2.heap.size + 1 < w4.heap.size := (unhide HL)
          have hone5 : w5.cell? ⟨w2.heap.size + 1, 0, none⟩ = some (.string s) := (hb5.cell (p := ⟨w2.heap.size + 1, 0, none⟩) (by simp; omega)).trans (by rw [World.cell?_alloc_old _ _ _ (by simp; omega)]; exact hone)
          have hsin5 := hc5 0 (by omega)
          have hfin : Below w'.heap.size w' w5 := ((below_drewN' (unhide HB) nq).alloc (unhide HB).size _).trans (hb5.mono (by have := (unhide HB).size; simp; omega))
          have HF := hide hfin
          clear hc5 hb5 hone hfin
          go_wp2
          go_quiet (fail)
          go_wp2
          go_ret
          exact ⟨rfl, below_drewN' (unhide HF) _⟩

set_option maxRecDepth 100000 in
set_option maxHeartbeats 1000000 in
/-- xs is nil. -/
theorem reads_nil (s : ByteArray) (w : World) (hs : s.size ≤ maxLen) :
    Calls Tryf.prog 3 #[.string s, .slice none 0 0] w fun e w' => e = .returned (.bool true) ∧ Below w.heap.size w w' := by
  have h5 := hide (bytes5_none s (fun _ => s) none 0 w hs)
  have hn0 := fun w => run_neq_slice_nil_any (P := Tryf.prog) w 22 9 none 0 0 0 0 Tryf.underlying22
  unfold maxLen at hs
  by_cases h1 : (s.size : Int) > 1048576
  · go_enter Tryf.func3, Tryf.ntmps3
    go_wp2_with (go_at_call 5; refine (unhide h5).mono ?_; rintro e w' ⟨(rfl | ⟨rfl, _⟩), rfl⟩)
    all_goals (go_wp2; go_ret; exact ⟨rfl, Below.refl _ _⟩)
  have d1 : decide (1048576 < (s.size : Int)) = false := by simp; omega
  go_enter Tryf.func3, Tryf.ntmps3
  go_wp2_with (go_at_call 5; refine (unhide h5).mono ?_; rintro e w' ⟨(rfl | ⟨rfl, _⟩), rfl⟩)
  · go_wp2
    go_ret
    exact ⟨rfl, Below.refl _ _⟩
  go_wp2
  refine wp_loop_rounds 1 ?_
  rw [rounds_succ]
  go_wp2_with (go_at_call 6; refine (of_string s _).mono ?_; rintro e w3 ⟨rfl, rfl⟩)
  refine (of_array_none (fun _ => s) none 0 _).mono ?_
  rintro e w4 ⟨B4, rfl, hB4, hc4, hb4⟩
  have hone : w4.cell? ⟨w'.heap.size + 1, 0, none⟩ = some (.string s) := (hb4.cell (p := ⟨w'.heap.size + 1, 0, none⟩) (by simp)).trans (by simp)
  have hbel4 : Below w'.heap.size w' w4 := (((Below.refl _ _).alloc (Nat.le_refl _) _).alloc (by simp) _).trans (hb4.mono (by simp; omega))
  have HB := hide hbel4
  have hn1 := fun w => Lib.run_eql_slice_nil (P := Tryf.prog) w 22 9 (some ⟨B4, 0, none⟩) 0 0 0 0 Tryf.underlying22
  have HL : Hid (w'.heap.size + 1 < w4.heap.size) := by have := hb4.size; simp at this; exact (by omega : w'.heap.size + 1 < w4.heap.size)
  clear hc4 hb4 hbel4
  go_wp2
  refine wp_loop_rounds 1 ?_
  rw [rounds_succ]
  have hnew : RowIn (w4.alloc (.cells #[.string s] 9)) w4.heap.size 1 (fun _ => s) := ⟨by simp, fun j hj => by
    obtain rfl : j = 0 := by omega
    exact World.cell?_alloc_at _ _ _ _ rfl⟩
  have HN := hide hnew
  clear hnew
  go_wp2_with fail
  refine (of_array _ 1 (fun _ => s) _ (by omega) ((unhide HN).row 1)).mono ?_
  rintro e w5 ⟨B5, rfl, hB5, hc5, hb5⟩
  have hlt5 : w'.heap.size + 1 < w4.heap.size := (unhide HL)
  have hone5 : w5.cell? ⟨w'.heap.size + 1, 0, none⟩ = some (.string s) := (hb5.cell (p := ⟨w'.heap.size + 1, 0, none⟩) (by simp; omega)).trans (by rw [World.cell?_alloc_old _ _ _ (by simp; omega)]; exact hone)
  have hsin5 := hc5 0 (by omega)
  have hfin : Below w'.heap.size w' w5 := ((unhide HB).alloc (unhide HB).size _).trans (hb5.mono (by have := (unhide HB).size; simp; omega))
  have HF := hide hfin
  clear hc5 hb5 hone hfin
  go_wp2
  go_quiet (fail)
  go_wp2
  go_ret
  exact ⟨rfl, below_drewN' (unhide HF) _⟩

theorem reads_any (s : ByteArray) (v : Value) (n : Nat) (ss : Nat → ByteArray) (w : World) (hn : n ≤ maxLen) (hs : s.size ≤ maxLen) (hss : ∀ j, j < n → (ss j).size ≤ maxLen)
    (hv : v = .slice none 0 0 ∨ ∃ a cap, v = .slice (some a) n cap) (hr : StrRow w v n ss) :
    Calls Tryf.prog 3 #[.string s, v] w fun e w' => e = .returned (.bool true) ∧ Below w.heap.size w w' := by
  rcases hv with rfl | ⟨a, cap, rfl⟩
  · exact reads_nil s w hs
  · exact reads_some s a n cap ss w hn hs hss hr
end Go.Proofs.Qxb6614376aFmt
