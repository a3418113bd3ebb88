import Derived.Test.Qxb6614376aFmtAt
namespace Go.Proofs.Qxb6614376aFmt
open Go.RowKit Go.Extern.Stop Go.Stop Go.Extern

set_option maxRecDepth 100000 in
set_option maxHeartbeats 1000000 in
/-- xs is not nil. -/
theorem refuses_some (F : Interp) (a : Addr) (n cap : Nat) (q : Int) (f : Nat) (ss : Nat → ByteArray) (w : World) (hF : F.answers w.tape) (hn : n ≤ maxLen) (hss : ∀ j, j < n → (ss j).size ≤ maxLen)
    (hr : StrRow w (.slice (some a) n cap) n ss) :
    Calls Tryf.prog 4 #[.slice (some a) n cap, .int .i64 q, .float .f64 f] w fun e w' => e = .returned (.bool true) ∧ Below w.heap.size w w' := by
  have h5 := hide (bytes8 (.slice (some a) n cap) q f n ss w hn hss hr)
  unfold maxLen at hn
  by_cases h2 : (n : Int) > 65536
  · go_enter Tryf.func4, Tryf.ntmps4
    go_wp2_with (go_at_call 8; refine (unhide h5).mono ?_; rintro e w' ⟨(rfl | ⟨rfl, _⟩), rfl⟩)
    all_goals (go_wp2; go_ret; exact ⟨rfl, Below.refl _ _⟩)
  obtain ⟨w1, w2, hmk, hcp, hrow, hbel⟩ := make_copy a n cap ss w (by omega) hr
  have HR := hide hrow
  have HF := hide hF
  have d2 : decide (65536 < (n : Int)) = false := by simp; omega
  have hn0 := fun w => run_neq_slice_nil_any (P := Tryf.prog) w 22 9 (some a) n cap 0 0 Tryf.underlying22
  clear hss hr hrow hF
  go_enter Tryf.func4, Tryf.ntmps4
  go_wp2_with (go_at_call 8; refine (unhide h5).mono ?_; rintro e w' ⟨(rfl | ⟨rfl, hall⟩), rfl⟩)
  · go_wp2
    go_ret
    exact ⟨rfl, Below.refl _ _⟩
  have HA := hide hall
  clear hall
  go_wp2
  go_loop [8, 9] (fun t i => ∃ (k : Nat) (z : Int), k ≤ n ∧ 0 ≤ z ∧ z ≤ 1048576 ∧ i = .int .i64 k ∧ t = .int .i64 z) (fun _ i => n - (intOf i).toNat)
  case atStart => exact ⟨0, _, Nat.zero_le _, by omega, by omega, rfl, rfl⟩
  case round =>
    obtain ⟨k, z, hk, hz0, hz1, rfl, rfl⟩ := hrel
    clear hmk hcp hn0
    by_cases hlt : k < n
    · have hck := (unhide HR).2 k hlt
      have hsk := (unhide HA) k hlt
      go_wp2
      · go_ret
        exact ⟨rfl, hbel⟩
      · go_round
        case rel => exact ⟨k + 1, _, by omega, by omega, by omega, by go_num, rfl⟩
        case measure => simp [intOf]; omega
    · obtain rfl : k = n := by omega
      by_cases h3 : q < 0
      · go_wp2
        go_ret
        exact ⟨rfl, hbel⟩
      by_cases h4 : (k : Int) < q
      · go_wp2
        go_ret
        exact ⟨rfl, hbel⟩
      obtain ⟨qn, rfl⟩ := Int.eq_ofNat_of_zero_le (Int.not_lt.1 h3)
      have H9 := hide (of_at F (.slice (some ⟨w'.heap.size, 0, none⟩) k k) k qn f ss w2 (by rw [hbel.tape]; exact unhide HF) (by omega) (by omega) ((unhide HR).row k))
      have hnn := fun w => run_neq_slice_nil_any (P := Tryf.prog) w 22 9 none 0 0 0 0 Tryf.underlying22
      have hnm := fun w => Lib.run_eql_slice_nil (P := Tryf.prog) w 22 9 none 0 0 0 0 Tryf.underlying22
      have HB := hide hbel
      clear hbel
      go_wp2_with (go_at_call 9; refine (unhide H9).mono ?_; rintro e w3 ⟨a3, rfl, hb3⟩)
      refine (of_number f _).mono ?_
      rintro e w4 ⟨a4, rfl, hb4⟩
      go_wp2_with fail
      refine (absent _).mono ?_
      rintro e w5 ⟨rfl, hb5⟩
      go_wp2_with fail
      refine (aud_null _).mono ?_
      rintro e w6 ⟨rfl, hb6⟩
      have hfin : Below w'.heap.size w' w6 := by
        have b2 := (unhide HB)
        have b3 := b2.trans (hb3.mono b2.size)
        have b4 := b3.trans (hb4.mono b3.size)
        have b5 := b4.trans (hb5.mono b4.size)
        exact b5.trans (hb6.mono b5.size)
      have HN := hide hfin
      clear hb3 hb4 hb5 hb6 hfin HB
      go_wp2
      go_ret
      exact ⟨rfl, unhide HN⟩

set_option maxRecDepth 100000 in
set_option maxHeartbeats 1000000 in
/-- xs is nil. -/
theorem refuses_nil (F : Interp) (q : Int) (f : Nat) (w : World) (hF : F.answers w.tape) :
    Calls Tryf.prog 4 #[.slice none 0 0, .int .i64 q, .float .f64 f] w fun e w' => e = .returned (.bool true) ∧ Below w.heap.size w w' := by
  have h5 := hide (bytes8_none (fun _ => ByteArray.empty) none 0 q f w)
  have hnn := fun w => run_neq_slice_nil_any (P := Tryf.prog) w 22 9 none 0 0 0 0 Tryf.underlying22
  have hnm := fun w => Lib.run_eql_slice_nil (P := Tryf.prog) w 22 9 none 0 0 0 0 Tryf.underlying22
  by_cases h0 : q = 0
  · subst h0
    have H9 := hide (of_at_none F f none 0 w hF)
    clear hF
    go_enter Tryf.func4, Tryf.ntmps4
    go_wp2_with (go_at_call 8; refine (unhide h5).mono ?_; rintro e w' ⟨(rfl | ⟨rfl, _⟩), rfl⟩)
    · go_wp2
      go_ret
      exact ⟨rfl, Below.refl _ _⟩
    go_wp2
    refine wp_loop_rounds 1 ?_
    rw [rounds_succ]
    go_wp2_with (go_at_call 9; refine (unhide H9).mono ?_; rintro e w3 ⟨a3, rfl, hb3⟩)
    refine (of_number f _).mono ?_
    rintro e w4 ⟨a4, rfl, hb4⟩
    go_wp2_with fail
    refine (absent _).mono ?_
    rintro e w5 ⟨rfl, hb5⟩
    go_wp2_with fail
    refine (aud_null _).mono ?_
    rintro e w6 ⟨rfl, hb6⟩
    have hfin : Below w'.heap.size w' w6 := by
      have b4 := hb3.trans (hb4.mono hb3.size)
      have b5 := b4.trans (hb5.mono b4.size)
      exact b5.trans (hb6.mono b5.size)
    have HN := hide hfin
    clear hb3 hb4 hb5 hb6 hfin
    go_wp2
    go_ret
    exact ⟨rfl, unhide HN⟩
  by_cases h3 : q < 0
  · go_enter Tryf.func4, Tryf.ntmps4
    go_wp2_with (go_at_call 8; refine (unhide h5).mono ?_; rintro e w' ⟨(rfl | ⟨rfl, _⟩), rfl⟩)
    · go_wp2
      go_ret
      exact ⟨rfl, Below.refl _ _⟩
    go_wp2
    refine wp_loop_rounds 1 ?_
    rw [rounds_succ]
    go_wp2
    go_ret
    exact ⟨rfl, Below.refl _ _⟩
  have h4 : 0 < q := by omega
  clear h0
  go_enter Tryf.func4, Tryf.ntmps4
  go_wp2_with (go_at_call 8; refine (unhide h5).mono ?_; rintro e w' ⟨(rfl | ⟨rfl, _⟩), rfl⟩)
  · go_wp2
    go_ret
    exact ⟨rfl, Below.refl _ _⟩
  go_wp2
  refine wp_loop_rounds 1 ?_
  rw [rounds_succ]
  go_wp2
  go_ret
  exact ⟨rfl, Below.refl _ _⟩

theorem refuses_any (F : Interp) (v : Value) (q : Int) (f n : Nat) (ss : Nat → ByteArray) (w : World) (hF : F.answers w.tape) (hn : n ≤ maxLen) (hss : ∀ j, j < n → (ss j).size ≤ maxLen)
    (hv : v = .slice none 0 0 ∨ ∃ a cap, v = .slice (some a) n cap) (hr : StrRow w v n ss) :
    Calls Tryf.prog 4 #[v, .int .i64 q, .float .f64 f] w fun e w' => e = .returned (.bool true) ∧ Below w.heap.size w w' := by
  rcases hv with rfl | ⟨a, cap, rfl⟩
  · exact refuses_nil F q f w hF
  · exact refuses_some F a n cap q f ss w hF hn hss hr
end Go.Proofs.Qxb6614376aFmt
