import Derived.Test.Qxb6614376aFmtMaps
namespace Go.Proofs.Qxb6614376aFmt
open Go.RowKit

/-- What 'obj["aud"]' comes to. -/
def AudIs (w : World) (m : Nat) (v : Value) : Prop := (Instr.lookup 35 (.map (some m)) (.string ⟨#[97, 117, 100]⟩) false).run Tryf.prog w = .ok v w

set_option maxRecDepth 100000 in
set_option maxHeartbeats 400000 in
theorem aud_nil (m : Nat) (w : World) (hl : AudIs w m .nilIface) :
    Calls Tryf.prog 13 #[.map (some m)] w fun e w' => e = .returned (.tuple #[.slice none 0 0, .nilIface]) ∧ w' = w := by
  unfold AudIs at hl
  go_enter Tryf.func13, Tryf.ntmps13
  go_wp2
  go_ret2
  exact ⟨rfl, rfl⟩

set_option maxRecDepth 100000 in
set_option maxHeartbeats 400000 in
theorem aud_str (s : ByteArray) (m : Nat) (w : World) (hl : AudIs w m (.iface 9 (.string s))) :
    Calls Tryf.prog 13 #[.map (some m)] w fun e w' => e = .returned (.tuple #[.slice (some ⟨w.heap.size, 0, none⟩) 1 1, .nilIface]) ∧ w' = w.alloc (.cells #[.string s] 9) := by
  unfold AudIs at hl
  have ha := as_str
  go_enter Tryf.func13, Tryf.ntmps13
  go_wp2
  go_ret2
  exact ⟨rfl, rfl⟩

set_option maxRecDepth 100000 in
set_option maxHeartbeats 400000 in
theorem aud_num (f : Nat) (m : Nat) (w : World) (hl : AudIs w m (.iface 29 (.float .f64 f))) :
    Calls Tryf.prog 13 #[.map (some m)] w fun e w' => e = .returned (.tuple #[.slice none 0 0, .iface 41 (.pointer (some ⟨w.heap.size, 0, none⟩))]) ∧ Below w.heap.size w w' := by
  unfold AudIs at hl
  have ha := as_str_num
  have hb := as_row_num
  go_enter Tryf.func13, Tryf.ntmps13
  go_wp2
  go_ret2
  exact ⟨rfl, (Below.refl _ _).alloc (Nat.le_refl _) _⟩

set_option maxRecDepth 100000 in
set_option maxHeartbeats 1000000 in
theorem aud_row (ss : Nat → ByteArray) (g n cap m : Nat) (w : World) (hl : AudIs w m (.iface 36 (.slice (some ⟨g, 0, none⟩) n cap))) (hn : n ≤ 1048576) (hg : g < w.heap.size)
    (hc : ∀ j, j < n → w.cell? ⟨g, j, none⟩ = some (.iface 9 (.string (ss j)))) :
    Calls Tryf.prog 13 #[.map (some m)] w fun e w' => e = .returned (.tuple #[.slice (some ⟨w.heap.size, 0, none⟩) n n, .nilIface]) ∧
      w'.ownsRow w.heap.size 9 1 (.slice (some ⟨w.heap.size, 0, none⟩) n n) n (filled (fun j => .string (ss j)) (.string ⟨#[]⟩) n n) ∧ Below w.heap.size w w' := by
  unfold AudIs at hl
  have ha := as_str_row
  have hb := as_row
  have hs := as_str
  obtain ⟨w1, hmk, hown, hgr⟩ := run_make_full (P := Tryf.prog) w w.heap.size 22 9 Tryf.t9 (.string ⟨#[]⟩) 1 Tryf.underlying22 (by kernel_rfl) rfl rfl .i64 .i64 n (by show 16 * n ≤ _; omega) (by unfold maxLen; omega) (Nat.le_refl _)
  have hbel : Below w.heap.size w w1 := (Below.refl _ _).grown hgr (Nat.le_refl _) (fun k h => by cases h)
  have e0 : (madeCells (Value.string ⟨#[]⟩).cells (n * 1)).toList = filled (fun j => .string (ss j)) (.string ⟨#[]⟩) n 0 := by
    rw [filled_zero, Nat.mul_one]
    exact toList_madeCells_one _ _
  rw [e0] at hown
  clear e0 hgr
  generalize hB : w.heap.size = B at *
  go_enter Tryf.func13, Tryf.ntmps13
  go_wp2
  go_loopw [30] (fun i wr => ∃ k : Nat, k ≤ n ∧ i = .int .i64 k ∧ wr.ownsRow B 9 1 (.slice (some ⟨B, 0, none⟩) n n) n (filled (fun j => .string (ss j)) (.string ⟨#[]⟩) n k) ∧ Below B w wr) (fun i _ => n - (intOf i).toNat)
  case atStart => exact ⟨0, Nat.zero_le _, rfl, hown, hbel⟩
  case round =>
    obtain ⟨k, hk, rfl, hrow, hbw⟩ := hrel
    clear hown hbel hmk hl
    by_cases hlt : k < n
    · have hcg : wr.cell? ⟨g, k, none⟩ = some (.iface 9 (.string (ss k))) := (hbw.cell (p := ⟨g, k, none⟩) hg).trans (hc k hlt)
      have hold : wr.cell? ⟨B, k, none⟩ = some (.string ⟨#[]⟩) := (hrow.cellAt k (by omega)).trans (filled_get _ _ n k hlt)
      have hfr := hrow.frozenAt k
      have hst := (hrow.stored k (.string (ss k))).1
      have hset : (filled (fun j => .string (ss j)) (.string ⟨#[]⟩) n k).set k (.string (ss k)) = filled (fun j => .string (ss j)) (.string ⟨#[]⟩) n (k + 1) := filled_set (fun j => .string (ss j)) (.string ⟨#[]⟩) n k hlt
      rw [hset] at hst
      have hb2 : Below B w (wr.setCell ⟨B, k, none⟩ (.string (ss k))) := hbw.setCell (Nat.le_refl _) _
      clear hset hc hrow hbw
      go_wp2
      go_roundw
      case rel => exact ⟨k + 1, by omega, by go_num, hst, hb2⟩
      case measure => simp [intOf]; omega
    · obtain rfl : k = n := by omega
      clear hc
      go_wp2
      go_ret2
      exact ⟨rfl, hrow, hbw⟩
end Go.Proofs.Qxb6614376aFmt
