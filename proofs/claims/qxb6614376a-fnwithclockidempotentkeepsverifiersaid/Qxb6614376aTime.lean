import Derived.Test.Qxb6614376aBits
import Derived.WalkSpells
import Derived.WalkLawsBesides
import Derived.Laws.EntriesVeiled
namespace Go.Proofs.Qxb6614376a
open Go.RowKit

theorem hide {p : Prop} (h : p) : Hid p := h
theorem unhide {p : Prop} (h : Hid p) : p := h

set_option maxRecDepth 100000 in
set_option maxHeartbeats 400000 in
theorem nsec_any (n : Int) (m : Nat) (w : World) (h0 : 0 ≤ n) (h1 : n < 1000000000) (hc : w.cell? ⟨m, 0, none⟩ = some (.int .u64 n)) :
    Calls Try.prog 34 #[.pointer (some ⟨m, 0, none⟩)] w fun e w' => e = .returned (.int .i32 n) ∧ w' = w := by
  have hm := b_mask n h0 h1
  go_enter Try.func34, Try.ntmps34
  go_wp2
  go_ret
  exact ⟨rfl, rfl⟩

set_option maxRecDepth 100000 in
set_option maxHeartbeats 400000 in
theorem sec_any (n x : Int) (m : Nat) (w : World) (h0 : 0 ≤ n) (h1 : n < 1000000000) (hc : w.cell? ⟨m, 0, none⟩ = some (.int .u64 n)) (hx : w.cell? ⟨m, 1, none⟩ = some (.int .i64 x)) :
    Calls Try.prog 39 #[.pointer (some ⟨m, 0, none⟩)] w fun e w' => e = .returned (.int .i64 x) ∧ w' = w := by
  have hm := b_top n h0 h1
  go_enter Try.func39, Try.ntmps39
  go_wp2
  go_ret
  exact ⟨rfl, rfl⟩

set_option maxRecDepth 100000 in
set_option maxHeartbeats 400000 in
/-- addSec on a time whose seconds stand at 0. -/
theorem addSec_any (n d : Int) (m : Nat) (w : World) (h0 : 0 ≤ n) (h1 : n < 1000000000) (hd0 : -9223372037 ≤ d) (hd1 : d ≤ 9223372036) (hc : w.cell? ⟨m, 0, none⟩ = some (.int .u64 n)) (hx : w.cell? ⟨m, 1, none⟩ = some (.int .i64 0)) (hfz : w.frozen? ⟨m, 1, none⟩ = false) :
    Calls Try.prog 35 #[.pointer (some ⟨m, 0, none⟩), .int .i64 d] w fun e w' => e = .returned (.tuple #[]) ∧ w' = w.setCell ⟨m, 1, none⟩ (.int .i64 d) := by
  have hm := b_top n h0 h1
  by_cases hp : 0 < d
  · go_enter Try.func35, Try.ntmps35
    go_wp2
    go_end0
    exact ⟨rfl, rfl⟩
  · go_enter Try.func35, Try.ntmps35
    go_wp2
    go_end0
    exact ⟨rfl, rfl⟩
end Go.Proofs.Qxb6614376a
