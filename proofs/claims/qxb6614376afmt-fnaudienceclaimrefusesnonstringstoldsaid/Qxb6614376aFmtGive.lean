import Derived.Test.Qxb6614376aFmtAud
namespace Go.Proofs.Qxb6614376aFmt
open Go.RowKit

theorem audIs_hit (w : World) (v : Value) : AudIs (w.alloc (.map #[⟨.string ⟨#[97, 117, 100]⟩, v, 0⟩] 1)) w.heap.size v :=
  run_look_hit _ _ _ _ 0 1 (by show (w.heap.push _)[w.heap.size]? = _; simp)

set_option maxRecDepth 100000 in
set_option maxHeartbeats 400000 in
theorem of_string (s : ByteArray) (w : World) :
    Calls Tryf.prog 6 #[.string s] w fun e w' => e = .returned (.tuple #[.slice (some ⟨w.heap.size + 1, 0, none⟩) 1 1, .nilIface]) ∧
      w' = (w.alloc (.map #[⟨.string ⟨#[97, 117, 100]⟩, .iface 9 (.string s), 0⟩] 1)).alloc (.cells #[.string s] 9) := by
  have hmm := @run_makeMap Tryf.prog
  have hput := run_put w
  go_enter Tryf.func6, Tryf.ntmps6
  go_wp2_with (go_at_call 13; refine (aud_str s _ _ (audIs_hit w (.iface 9 (.string s)))).mono ?_; rintro e w' ⟨rfl, rfl⟩)
  go_ret2
  exact ⟨rfl, rfl⟩

/-- It hands back a new slice with just these strings, and no error. -/
def Gives (w w' : World) (e : Ending) (n : Nat) (ss : Nat → ByteArray) : Prop :=
  ∃ B, e = .returned (.tuple #[.slice (some ⟨B, 0, none⟩) n n, .nilIface]) ∧ B < w'.heap.size ∧ (∀ j, j < n → w'.cell? ⟨B, j, none⟩ = some (.string (ss j))) ∧ Below w.heap.size w w'

theorem row_cells {w : World} {base B n : Nat} {f : Nat → Value} {z : Value} (h : w.ownsRow base 9 1 (.slice (some ⟨B, 0, none⟩) n n) n (filled f z n n)) : B < w.heap.size ∧ ∀ j, j < n → w.cell? ⟨B, j, none⟩ = some (f j) :=
  ⟨(h.lt B rfl).2, fun j hj => (h.cellAt j (by omega)).trans (filled_done f z n j hj)⟩

set_option maxRecDepth 100000 in
set_option maxHeartbeats 1000000 in
theorem of_array_some (ss : Nat → ByteArray) (b off n cap : Nat) (w : World) (hn : n ≤ 1048576) (hbw : b < w.heap.size) (hc : ∀ j, j < n → w.cell? ⟨b, off + j, none⟩ = some (.string (ss j))) :
    Calls Tryf.prog 7 #[.slice (some ⟨b, off, none⟩) n cap] w fun e w' => Gives w w' e n ss := by
  have hmm := @run_makeMap Tryf.prog
  obtain ⟨w1, hmk, hown, hgr⟩ := run_make_full (P := Tryf.prog) w w.heap.size 36 20 Tryf.t20 .nilIface 1 Tryf.underlying36 (by kernel_rfl) rfl rfl .i64 .i64 n (by show 16 * n ≤ _; omega) (by unfold maxLen; omega) (Nat.le_refl _)
  have hbel : Below w.heap.size w w1 := (Below.refl _ _).grown hgr (Nat.le_refl _) (fun k h => by cases h)
  have e0 : (madeCells Value.nilIface.cells (n * 1)).toList = filled (fun j => .iface 9 (.string (ss j))) .nilIface n 0 := by
    rw [filled_zero, Nat.mul_one]
    exact toList_madeCells_one _ _
  rw [e0] at hown
  clear e0 hgr
  generalize hB : w.heap.size = B at *
  go_enter Tryf.func7, Tryf.ntmps7
  go_wp2
  go_loopw [5] (fun i wr => ∃ k : Nat, k ≤ n ∧ i = .int .i64 k ∧ wr.ownsRow B 20 1 (.slice (some ⟨B, 0, none⟩) n n) n (filled (fun j => .iface 9 (.string (ss j))) .nilIface n k) ∧ Below B w wr) (fun i _ => n - (intOf i).toNat)
  case atStart => exact ⟨0, Nat.zero_le _, rfl, hown, hbel⟩
  case round =>
    obtain ⟨k, hk, rfl, hrow, hbr⟩ := hrel
    clear hown hbel hmk
    by_cases hlt : k < n
    · have hcg : wr.cell? ⟨b, off + k, none⟩ = some (.string (ss k)) := (hbr.cell (p := ⟨b, off + k, none⟩) hbw).trans (hc k hlt)
      have hold : wr.cell? ⟨B, k, none⟩ = some .nilIface := (hrow.cellAt k (by omega)).trans (filled_get _ _ n k hlt)
      have hfr := hrow.frozenAt k
      have hst := (hrow.stored k (.iface 9 (.string (ss k)))).1
      have hset : (filled (fun j => .iface 9 (.string (ss j))) .nilIface n k).set k (.iface 9 (.string (ss k))) = filled (fun j => .iface 9 (.string (ss j))) .nilIface n (k + 1) := filled_set (fun j => .iface 9 (.string (ss j))) .nilIface n k hlt
      rw [hset] at hst
      have hb2 : Below B w (wr.setCell ⟨B, k, none⟩ (.iface 9 (.string (ss k)))) := hbr.setCell (Nat.le_refl _) _
      clear hset hc hrow hbr
      go_wp2
      go_roundw
      case rel => exact ⟨k + 1, by omega, by go_num, hst, hb2⟩
      case measure => simp [intOf]; omega
    · obtain rfl : k = n := by omega
      have hput := run_put wr
      have hcr : ∀ j, j < k → (wr.alloc (.map #[⟨.string ⟨#[97, 117, 100]⟩, .iface 36 (.slice (some ⟨B, 0, none⟩) k k), 0⟩] 1)).cell? ⟨B, j, none⟩ = some (.iface 9 (.string (ss j))) := fun j hj =>
        (((hrow.alloc _).cellAt j (by omega)).trans (filled_done _ _ k j hj))
      have hlt2 : B < wr.heap.size := (hrow.lt B rfl).2
      have hcall := aud_row ss B k k _ _ (audIs_hit wr (.iface 36 (.slice (some ⟨B, 0, none⟩) k k))) hn (by simp; omega) hcr
      have HC := hide hcall
      clear hc hcr hcall
      go_wp2_with (go_at_call 13; refine (unhide HC).mono ?_; rintro e w' ⟨rfl, ho, hb3⟩)
      go_ret2
      obtain ⟨h1, h2⟩ := row_cells ho
      simp only [World.size_alloc] at h1 h2
      subst hB
      exact ⟨_, rfl, h1, h2, (hbr.alloc hbr.size _).trans (hb3.mono (by have := hbr.size; simp; omega))⟩

set_option maxRecDepth 100000 in
set_option maxHeartbeats 1000000 in
theorem of_array_none (ss : Nat → ByteArray) (ao : Option Addr) (cap : Nat) (w : World) :
    Calls Tryf.prog 7 #[.slice ao 0 cap] w fun e w' => Gives w w' e 0 ss := by
  have hmm := @run_makeMap Tryf.prog
  obtain ⟨wr, hmk, hrow, hgr⟩ := run_make_full (P := Tryf.prog) w w.heap.size 36 20 Tryf.t20 .nilIface 1 Tryf.underlying36 (by kernel_rfl) rfl rfl .i64 .i64 0 (by show 16 * 0 ≤ _; omega) (by unfold maxLen; omega) (Nat.le_refl _)
  have hbr : Below w.heap.size w wr := (Below.refl _ _).grown hgr (Nat.le_refl _) (fun k h => by cases h)
  clear hgr
  rw [show ((0 : Nat) : Int) = 0 from rfl] at hmk
  have hlt2 : w.heap.size < wr.heap.size := (hrow.lt w.heap.size rfl).2
  generalize hB : w.heap.size = B at *
  have hput := run_put wr
  have hcall := aud_row ss B 0 0 _ _ (audIs_hit wr (.iface 36 (.slice (some ⟨B, 0, none⟩) 0 0))) (by omega) (by simp; omega) (fun j hj => by omega)
  have HC := hide hcall
  clear hcall hrow
  go_enter Tryf.func7, Tryf.ntmps7
  go_wp2
  refine wp_loop_rounds 1 ?_
  rw [rounds_succ]
  go_wp2_with (go_at_call 13; refine (unhide HC).mono ?_; rintro e w' ⟨rfl, ho, hb3⟩)
  go_ret2
  obtain ⟨h1, h2⟩ := row_cells ho
  simp only [World.size_alloc] at h1 h2
  subst hB
  exact ⟨_, rfl, h1, h2, (hbr.alloc hbr.size _).trans (hb3.mono (by have := hbr.size; simp; omega))⟩

theorem of_array (v : Value) (n : Nat) (ss : Nat → ByteArray) (w : World) (hn : n ≤ 1048576) (hr : StrRow w v n ss) : Calls Tryf.prog 7 #[v] w fun e w' => Gives w w' e n ss := by
  rcases hr with ⟨ao, cap, rfl, rfl⟩ | ⟨b, off, cap, rfl, hb, hc⟩
  · exact of_array_none ss ao cap w
  · exact of_array_some ss b off n cap w hn hb hc
end Go.Proofs.Qxb6614376aFmt
