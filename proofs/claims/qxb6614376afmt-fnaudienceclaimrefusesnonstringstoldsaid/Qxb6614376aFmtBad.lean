import Derived.Test.Qxb6614376aFmtErr
import Derived.Deep.AppendLies
namespace Go.Proofs.Qxb6614376aFmt
open Go.RowKit Go.Extern.Stop Go.Stop Go.Extern

set_option maxRecDepth 100000 in
set_option maxHeartbeats 1000000 in
/-- audienceClaim at an array whose q-th element is a number, strings ahead of it. -/
theorem aud_bad (F : Interp) (ss : Nat → ByteArray) (f q g n cap m : Nat) (w : World) (hF : F.answers w.tape) (hl : AudIs w m (.iface 36 (.slice (some ⟨g, 0, none⟩) n cap))) (hn : n ≤ 1048576) (hq : q < n) (hg : g < w.heap.size)
    (hc : ∀ j, j < q → w.cell? ⟨g, j, none⟩ = some (.iface 9 (.string (ss j)))) (hcq : w.cell? ⟨g, q, none⟩ = some (.iface 29 (.float .f64 f))) :
    Calls Tryf.prog 13 #[.map (some m)] w fun e w' => Refuses w w' e := by
  unfold AudIs at hl
  have ha := as_str_row
  have hb := as_row
  have hs := as_str
  have hsn := as_str_num
  obtain ⟨w1, hmk, hown, hgr⟩ := run_make_full (P := Tryf.prog) w w.heap.size 22 9 Tryf.t9 (.string ⟨#[]⟩) 1 Tryf.underlying22 (by kernel_rfl) rfl rfl .i64 .i64 n (by show 16 * n ≤ _; omega) (by unfold maxLen; omega) (Nat.le_refl _)
  have hbel : Below w.heap.size w w1 := (Below.refl _ _).grown hgr (Nat.le_refl _) (fun k h => by cases h)
  have e0 : (madeCells (Value.string ⟨#[]⟩).cells (n * 1)).toList = filled (fun j => .string (ss j)) (.string ⟨#[]⟩) n 0 := by
    rw [filled_zero, Nat.mul_one]
    exact toList_madeCells_one _ _
  rw [e0] at hown
  clear e0 hgr
  have HF := hide hF
  clear hF
  generalize hB : w.heap.size = B at *
  go_enter Tryf.func13, Tryf.ntmps13
  go_wp2
  go_loopw [30] (fun i wr => ∃ k : Nat, k ≤ q ∧ i = .int .i64 k ∧ wr.ownsRow B 9 1 (.slice (some ⟨B, 0, none⟩) n n) n (filled (fun j => .string (ss j)) (.string ⟨#[]⟩) n k) ∧ Below B w wr) (fun i _ => n - (intOf i).toNat)
  case atStart => exact ⟨0, Nat.zero_le _, rfl, hown, hbel⟩
  case round =>
    obtain ⟨k, hk, rfl, hrow, hbw⟩ := hrel
    clear hown hbel hmk hl
    have hlt : k < n := by omega
    by_cases hkq : k < q
    · have hcg : wr.cell? ⟨g, k, none⟩ = some (.iface 9 (.string (ss k))) := (hbw.cell (p := ⟨g, k, none⟩) hg).trans (hc k hkq)
      have hold : wr.cell? ⟨B, k, none⟩ = some (.string ⟨#[]⟩) := (hrow.cellAt k (by omega)).trans (filled_get _ _ n k hlt)
      have hfr := hrow.frozenAt k
      have hst := (hrow.stored k (.string (ss k))).1
      have hset : (filled (fun j => .string (ss j)) (.string ⟨#[]⟩) n k).set k (.string (ss k)) = filled (fun j => .string (ss j)) (.string ⟨#[]⟩) n (k + 1) := filled_set (fun j => .string (ss j)) (.string ⟨#[]⟩) n k hlt
      rw [hset] at hst
      have hb2 : Below B w (wr.setCell ⟨B, k, none⟩ (.string (ss k))) := hbw.setCell (Nat.le_refl _) _
      clear hset hc hrow hbw hcq
      go_wp2
      go_roundw
      case rel => exact ⟨k + 1, by omega, by go_num, hst, hb2⟩
      case measure => simp [intOf]; omega
    · obtain rfl : k = q := by omega
      have hcg : wr.cell? ⟨g, k, none⟩ = some (.iface 29 (.float .f64 f)) := (hbw.cell (p := ⟨g, k, none⟩) hg).trans hcq
      have hE := errorf_any F (k : Int) wr.heap.size (wr.alloc (.cells #[.iface 3 (.int .i64 (k : Int))] 20)) (by show F.answers wr.tape; rw [hbw.tape]; exact unhide HF) (World.cell?_alloc_at _ _ _ _ rfl)
      have HE := hide hE
      clear hc hrow hcq hE
      go_wp2_with (go_at_call 14; refine (unhide HE).mono ?_; rintro e w' ⟨rfl, hb3⟩)
      go_ret2
      subst hB
      exact ⟨_, rfl, (hbw.alloc hbw.size _).trans (hb3.mono (by have := hbw.size; simp; omega))⟩

set_option maxRecDepth 100000 in
set_option maxHeartbeats 400000 in
theorem of_number (f : Nat) (w : World) : Calls Tryf.prog 10 #[.float .f64 f] w fun e w' => Refuses w w' e := by
  have hmm := @run_makeMap Tryf.prog
  have hput := run_put w
  have HC := hide (aud_num f _ _ (audIs_hit w (.iface 29 (.float .f64 f))))
  go_enter Tryf.func10, Tryf.ntmps10
  go_wp2_with (go_at_call 13; refine (unhide HC).mono ?_; rintro e w' ⟨rfl, hb⟩)
  go_ret2
  exact ⟨_, rfl, ((Below.refl _ _).alloc (Nat.le_refl _) _).trans (hb.mono (by simp))⟩

set_option maxRecDepth 100000 in
set_option maxHeartbeats 400000 in
theorem absent (w : World) : Calls Tryf.prog 11 #[] w fun e w' => e = .returned (.tuple #[.slice none 0 0, .nilIface]) ∧ Below w.heap.size w w' := by
  have hmm := @run_makeMap Tryf.prog
  have hput := run_put w
  have HC := hide (aud_nil w.heap.size _ (run_look_miss (w.alloc (.map #[⟨.string ⟨#[115, 117, 98]⟩, .iface 9 (.string ⟨#[120]⟩), 0⟩] 1)) w.heap.size ⟨#[115, 117, 98]⟩ ⟨#[97, 117, 100]⟩ (.iface 9 (.string ⟨#[120]⟩)) 0 1 (by show (w.heap.push _)[w.heap.size]? = _; simp) (by decide)))
  go_enter Tryf.func11, Tryf.ntmps11
  go_wp2_with (go_at_call 13; refine (unhide HC).mono ?_; rintro e w' ⟨rfl, rfl⟩)
  go_ret2
  exact ⟨rfl, (Below.refl _ _).alloc (Nat.le_refl _) _⟩

set_option maxRecDepth 100000 in
set_option maxHeartbeats 400000 in
theorem aud_null (w : World) : Calls Tryf.prog 12 #[] w fun e w' => e = .returned (.tuple #[.slice none 0 0, .nilIface]) ∧ Below w.heap.size w w' := by
  have hmm := @run_makeMap Tryf.prog
  have hput := run_put w
  have HC := hide (aud_nil w.heap.size _ (audIs_hit w .nilIface))
  go_enter Tryf.func12, Tryf.ntmps12
  go_wp2_with (go_at_call 13; refine (unhide HC).mono ?_; rintro e w' ⟨rfl, rfl⟩)
  go_ret2
  exact ⟨rfl, (Below.refl _ _).alloc (Nat.le_refl _) _⟩
end Go.Proofs.Qxb6614376aFmt
