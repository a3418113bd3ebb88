import Derived.Test.Qxb6614376aAdd
import Derived.Deep.QuietTactic
import Derived.BigQuiet
import Derived.Deep.RegionWith
namespace Go.Proofs.Qxb6614376a
open Go.RowKit

set_option maxRecDepth 100000 in
set_option maxHeartbeats 400000 in
/-- Equal, of two times that are one. -/
theorem equal_same (n x : Int) (w : World) (h0 : 0 ≤ n) (h1 : n < 1000000000) :
    Calls Try.prog 40 #[.agg #[.int .u64 n, .int .i64 x, .pointer none], .agg #[.int .u64 n, .int .i64 x, .pointer none]] w fun e w' => e = .returned (.bool true) ∧ Below w.heap.size w w' := by
  have hself : bits BinOp.and IntKind.u64 n n = n := by
    obtain ⟨k, rfl⟩ := Int.eq_ofNat_of_zero_le h0
    have e := bits_and_u64_nat k k (by omega) (by omega)
    refine e.trans ?_
    rw [Nat.and_self]
  have ht := b_top n h0 h1
  go_enter Try.func40, Try.ntmps40
  go_wp2_with (first | (go_at_call 39; refine (sec_any n x _ _ h0 h1 (by simp) (by simp)).mono ?_; rintro e w' ⟨rfl, rfl⟩) | (go_at_call 34; refine (nsec_any n _ _ h0 h1 (by simp)).mono ?_; rintro e w' ⟨rfl, rfl⟩))
  go_ret
  exact ⟨rfl, ((Below.refl _ _).alloc (by simp) _).alloc (by simp) _⟩

set_option maxRecDepth 100000 in
set_option maxHeartbeats 400000 in
theorem sub_any (d : Int) (w : World) (hlo : -9223372036854775808 ≤ d) (hhi : d ≤ 9223372036854775807) :
    Calls Try.prog 27 #[timeAt d, .agg #[.int .u64 0, .int .i64 0, .pointer none]] w fun e w' => e = .returned (.int .i64 d) ∧ Below w.heap.size w w' := by
  have hA := hide (fun w => add_any d w hlo hhi)
  unfold timeAt
  unfold timeAt at hA
  have h0 : 0 ≤ d % 1000000000 := by omega
  have h1 : d % 1000000000 < 1000000000 := by omega
  have hE := hide (fun w => equal_same (d % 1000000000) (d / 1000000000) w h0 h1)
  have hx : -9223372037 ≤ d / 1000000000 := by omega
  have hy : d / 1000000000 ≤ 9223372036 := by omega
  generalize hn : d % 1000000000 = n at *
  generalize hs : d / 1000000000 = x at *
  have hfin : wrap64 (wrap64 (x * 1000000000) + n) = d := by unfold wrap64; omega
  clear hn hs
  have hz := b_zero n h0 h1
  have hzt := b_top 0 (by omega) (by omega)
  go_enter Try.func27, Try.ntmps27
  go_wp2_with fail
  refine (sec_any n x _ _ h0 h1 (by simp) (by simp)).mono ?_
  rintro e w' ⟨rfl, rfl⟩
  go_wp2_with fail
  refine (sec_any 0 0 _ _ (by omega) (by omega) (by simp) (by simp)).mono ?_
  rintro e w' ⟨rfl, rfl⟩
  go_wp2_with fail
  refine (nsec_any n _ _ h0 h1 (by simp)).mono ?_
  rintro e w' ⟨rfl, rfl⟩
  go_wp2_with fail
  refine (nsec_any 0 _ _ (by omega) (by omega) (by simp)).mono ?_
  rintro e w' ⟨rfl, rfl⟩
  go_wp2_with fail
  rw [hfin]
  clear hfin
  go_region_with (first
    | (go_at_call 24; refine (unhide hA _).mono ?_; rintro e w1 ⟨rfl, hb1⟩; have q0 : w1.cell? ⟨w.heap.size, 0, none⟩ = some (.int .u64 n) := (hb1.cell (p := ⟨w.heap.size, 0, none⟩) (by simp; omega)).trans (by simp); have q1 : w1.cell? ⟨w.heap.size, 1, none⟩ = some (.int .i64 x) := (hb1.cell (p := ⟨w.heap.size, 1, none⟩) (by simp; omega)).trans (by simp); have q2 : w1.cell? ⟨w.heap.size, 2, none⟩ = some (.pointer none) := (hb1.cell (p := ⟨w.heap.size, 2, none⟩) (by simp; omega)).trans (by simp))
    | (go_at_call 40; refine (unhide hE _).mono ?_; rintro e w2 ⟨rfl, hb2⟩))
  all_goals (
    go_wp2
    go_ret
    have b1 : Below w.heap.size w w1 := ((((Below.refl _ _).alloc (by simp) _).alloc (by simp) _).drew).trans (hb1.mono (by simp; omega))
    exact ⟨rfl, b1.trans (hb2.mono b1.size)⟩)
end Go.Proofs.Qxb6614376a
