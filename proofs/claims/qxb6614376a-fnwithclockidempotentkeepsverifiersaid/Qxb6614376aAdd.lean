import Derived.Test.Qxb6614376aTime
namespace Go.Proofs.Qxb6614376a
open Go.RowKit

theorem b_andNot : bits BinOp.andNot IntKind.u64 0 1073741823 = 0 := by decide +kernel

set_option maxRecDepth 100000 in
set_option maxHeartbeats 400000 in
theorem add_pos (d a r : Int) (w : World) (_hlo : -9223372036854775808 ≤ d) (_hhi : d ≤ 9223372036854775807) (hq : d.tdiv 1000000000 = a) (hr : d.tmod 1000000000 = r) (ha0 : -9223372036 ≤ a) (ha1 : a ≤ 9223372036) (hr0 : 0 ≤ r) (hr1 : r < 1000000000) :
    Calls Try.prog 24 #[.agg #[.int .u64 0, .int .i64 0, .pointer none], .int .i64 d] w fun e w' => e = .returned (.agg #[.int .u64 r, .int .i64 a, .pointer none]) ∧ Below w.heap.size w w' := by
  have hbn := b_andNot
  have hbo := b_or r hr0 hr1
  have hbt := b_top r hr0 hr1
  go_enter Try.func24, Try.ntmps24
  go_wp2_with fail
  refine (nsec_any 0 _ _ (by omega) (by omega) ?hc).mono ?_
  case hc => simp
  rintro e w' ⟨rfl, rfl⟩
  go_wp2_with fail
  refine (addSec_any r a _ _ hr0 hr1 (by omega) (by omega) ?h1 ?h2 ?h3).mono ?_
  case h1 => simp
  case h2 => simp
  case h3 => simp
  rintro e w' ⟨rfl, rfl⟩
  go_wp2
  refine bodyPost_ret (v := .agg #[.int .u64 r, .int .i64 a, .pointer none]) (by simp [results, Try.results24, go_sem]) rfl ⟨rfl, ?_⟩
  exact ((Below.refl _ _).alloc (by simp) _).alloc (by simp) _

set_option maxRecDepth 100000 in
set_option maxHeartbeats 400000 in
theorem add_neg (d a r : Int) (w : World) (_hlo : -9223372036854775808 ≤ d) (_hhi : d ≤ 9223372036854775807) (hq : d.tdiv 1000000000 = a) (hr : d.tmod 1000000000 = r) (ha0 : -9223372036 ≤ a) (ha1 : a ≤ 9223372036) (hr0 : r < 0) (hr1 : -1000000000 < r) :
    Calls Try.prog 24 #[.agg #[.int .u64 0, .int .i64 0, .pointer none], .int .i64 d] w fun e w' => e = .returned (.agg #[.int .u64 (r + 1000000000), .int .i64 (a - 1), .pointer none]) ∧ Below w.heap.size w w' := by
  have hbn := b_andNot
  have hbo := b_or (r + 1000000000) (by omega) (by omega)
  have hbt := b_top (r + 1000000000) (by omega) (by omega)
  go_enter Try.func24, Try.ntmps24
  go_wp2_with fail
  refine (nsec_any 0 _ _ (by omega) (by omega) ?hc).mono ?_
  case hc => simp
  rintro e w' ⟨rfl, rfl⟩
  go_wp2_with fail
  refine (addSec_any (r + 1000000000) (a - 1) _ _ (by omega) (by omega) (by omega) (by omega) ?h1 ?h2 ?h3).mono ?_
  case h1 => simp
  case h2 => simp
  case h3 => simp
  rintro e w' ⟨rfl, rfl⟩
  go_wp2
  refine bodyPost_ret (v := .agg #[.int .u64 (r + 1000000000), .int .i64 (a - 1), .pointer none]) (by simp [results, Try.results24, go_sem]) rfl ⟨rfl, ?_⟩
  exact ((Below.refl _ _).alloc (by simp) _).alloc (by simp) _

/-- A time, d nanoseconds after the zero Time. -/
def timeAt (d : Int) : Value := .agg #[.int .u64 (d % 1000000000), .int .i64 (d / 1000000000), .pointer none]

theorem add_any (d : Int) (w : World) (hlo : -9223372036854775808 ≤ d) (hhi : d ≤ 9223372036854775807) :
    Calls Try.prog 24 #[.agg #[.int .u64 0, .int .i64 0, .pointer none], .int .i64 d] w fun e w' => e = .returned (timeAt d) ∧ Below w.heap.size w w' := by
  have hdm := Int.mul_tdiv_add_tmod d 1000000000
  by_cases hd : 0 ≤ d
  · have hr0 := Int.tmod_nonneg 1000000000 hd
    have hr1 := Int.tmod_lt_of_pos d (by decide : (0 : Int) < 1000000000)
    have e1 : d % 1000000000 = d.tmod 1000000000 := by omega
    have e2 : d / 1000000000 = d.tdiv 1000000000 := by omega
    unfold timeAt
    rw [e1, e2]
    exact add_pos d _ _ w hlo hhi rfl rfl (by omega) (by omega) hr0 hr1
  · have hn := Int.neg_tmod d 1000000000
    have hnn := Int.tmod_nonneg (a := -d) 1000000000 (by omega)
    have hlt := Int.tmod_lt_of_pos (-d) (by decide : (0 : Int) < 1000000000)
    by_cases hz : d.tmod 1000000000 = 0
    · have e1 : d % 1000000000 = d.tmod 1000000000 := by omega
      have e2 : d / 1000000000 = d.tdiv 1000000000 := by omega
      unfold timeAt
      rw [e1, e2]
      exact add_pos d _ _ w hlo hhi rfl rfl (by omega) (by omega) (by omega) (by omega)
    · have e1 : d % 1000000000 = d.tmod 1000000000 + 1000000000 := by omega
      have e2 : d / 1000000000 = d.tdiv 1000000000 - 1 := by omega
      unfold timeAt
      rw [e1, e2]
      exact add_neg d _ _ w hlo hhi rfl rfl (by omega) (by omega) (by omega) (by omega)
end Go.Proofs.Qxb6614376a
