import Derived.Test.Qxb6615060aBuild
import Derived.Deep.RegionWith
namespace Go.Proofs.Qxb6615060a
open Go.RowKit

set_option maxRecDepth 100000 in
set_option maxHeartbeats 400000 in
theorem change_any (p c b : ByteArray) (x y : Int) (w : World) :
    Calls Try.prog 11 #[.string p, .int .i64 x, .int .i64 y, .string c, .string b] w fun e w' => e = .returned (.agg #[.string p, .int .i64 x, .int .i64 y, .string c, .string b]) ∧ Below w.heap.size w w' := by
  go_enter Try.func11, Try.ntmps11
  go_wp2
  refine bodyPost_ret (v := .agg #[.string p, .int .i64 x, .int .i64 y, .string c, .string b]) (by simp [results, Try.results11, go_sem]) rfl ⟨rfl, (Below.refl _ _).alloc (by simp) _⟩

set_option maxRecDepth 100000 in
set_option maxHeartbeats 1000000 in
/-- A name that is too long: the law says true at once. -/
theorem back_long (a b c d e f g : ByteArray) (x y : Int) (w : World) (ha : a.size ≤ maxLen) (hb : b.size ≤ maxLen) (hc : c.size ≤ maxLen) (hd : d.size ≤ maxLen) (he : e.size ≤ maxLen) (hf : f.size ≤ maxLen) (hg : g.size ≤ maxLen)
    (h : 131072 < a.size ∨ 131072 < b.size ∨ 131072 < c.size ∨ 131072 < d.size ∨ 131072 < e.size ∨ 131072 < f.size ∨ 131072 < g.size) :
    Calls Try.prog 4 #[.string a, .string b, .string c, .string d, .string e, .string f, .string g, .int .i64 x, .int .i64 y] w fun e w' => e = .returned (.bool true) ∧ Below w.heap.size w w' := by
  have h10 := hide (bytes10 a b c d e f g x y w ha hb hc hd he hf hg)
  unfold maxLen at ha hb hc hd he hf hg
  by_cases k0 : (131072 : Int) < (a.size : Int)
  · clear h
    go_enter Try.func4, Try.ntmps4
    go_wp2_with (go_at_call 10; refine (unhide h10).mono ?_; rintro e w' ⟨⟨r, rfl⟩, rfl⟩)
    all_goals (go_ret; exact ⟨rfl, Below.refl _ _⟩)
  have d0 : decide ((131072 : Int) < (a.size : Int)) = false := by simp; omega
  by_cases k1 : (131072 : Int) < (b.size : Int)
  · clear h
    go_enter Try.func4, Try.ntmps4
    go_wp2_with (go_at_call 10; refine (unhide h10).mono ?_; rintro e w' ⟨⟨r, rfl⟩, rfl⟩)
    all_goals (go_ret; exact ⟨rfl, Below.refl _ _⟩)
  have d1 : decide ((131072 : Int) < (b.size : Int)) = false := by simp; omega
  by_cases k2 : (131072 : Int) < (c.size : Int)
  · clear h
    go_enter Try.func4, Try.ntmps4
    go_wp2_with (go_at_call 10; refine (unhide h10).mono ?_; rintro e w' ⟨⟨r, rfl⟩, rfl⟩)
    all_goals (go_ret; exact ⟨rfl, Below.refl _ _⟩)
  have d2 : decide ((131072 : Int) < (c.size : Int)) = false := by simp; omega
  by_cases k3 : (131072 : Int) < (d.size : Int)
  · clear h
    go_enter Try.func4, Try.ntmps4
    go_wp2_with (go_at_call 10; refine (unhide h10).mono ?_; rintro e w' ⟨⟨r, rfl⟩, rfl⟩)
    all_goals (go_ret; exact ⟨rfl, Below.refl _ _⟩)
  have d3 : decide ((131072 : Int) < (d.size : Int)) = false := by simp; omega
  by_cases k4 : (131072 : Int) < (e.size : Int)
  · clear h
    go_enter Try.func4, Try.ntmps4
    go_wp2_with (go_at_call 10; refine (unhide h10).mono ?_; rintro e w' ⟨⟨r, rfl⟩, rfl⟩)
    all_goals (go_ret; exact ⟨rfl, Below.refl _ _⟩)
  have d4 : decide ((131072 : Int) < (e.size : Int)) = false := by simp; omega
  by_cases k5 : (131072 : Int) < (f.size : Int)
  · clear h
    go_enter Try.func4, Try.ntmps4
    go_wp2_with (go_at_call 10; refine (unhide h10).mono ?_; rintro e w' ⟨⟨r, rfl⟩, rfl⟩)
    all_goals (go_ret; exact ⟨rfl, Below.refl _ _⟩)
  have d5 : decide ((131072 : Int) < (f.size : Int)) = false := by simp; omega
  have k6 : (131072 : Int) < (g.size : Int) := by omega
  clear h
  go_enter Try.func4, Try.ntmps4
  go_wp2_with (go_at_call 10; refine (unhide h10).mono ?_; rintro e w' ⟨⟨r, rfl⟩, rfl⟩)
  all_goals (go_ret; exact ⟨rfl, Below.refl _ _⟩)
end Go.Proofs.Qxb6615060a
