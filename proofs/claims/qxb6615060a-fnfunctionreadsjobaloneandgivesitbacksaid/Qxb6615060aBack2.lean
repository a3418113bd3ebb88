import Derived.Test.Qxb6615060aBack
namespace Go.Proofs.Qxb6615060a
open Go.RowKit

/-- The cells of the listing data that the law lays. -/
def full (a b c d e0 f g : ByteArray) (x y : Int) : Array Value := #[.string a, .string b, .string c, .int .i64 x, .int .i64 y, .string g, .string d, .string e0, .string f, .string ⟨#[]⟩, .string ⟨#[]⟩, .string ⟨#[]⟩]

theorem cut_toList (s : ByteArray) (i j : Nat) : (s.extract i j).toList = (s.toList.drop i).take (j - i) := by
  rw [ByteArray.toList_eq, ByteArray.toList_eq, ByteArray.data_extract, Array.toList_extract]

theorem head_is (g : ByteArray) : ((pre ++ g).extract 0 6).toList = (pre ++ ⟨#[]⟩).toList := by
  rw [cut_toList, ByteArray.toList_eq, ByteArray.toList_eq, ByteArray.data_append, ByteArray.data_append, Array.toList_append, Array.toList_append]
  simp [pre]

theorem tail_is (g : ByteArray) : (((pre ++ g).extract 6 (6 + g.size)).toList == g.toList) = true := by
  rw [cut_toList, ByteArray.toList_eq, ByteArray.toList_eq, ByteArray.data_append, Array.toList_append]
  have hl : g.size = g.data.toList.length := by simp
  rw [hl, show 6 + g.data.toList.length - 6 = g.data.toList.length by omega]
  have hd : ((pre.data.toList ++ g.data.toList).drop 6) = g.data.toList := rfl
  rw [hd, List.take_length]
  exact beq_self_eq_true _

theorem bcell {W w1 : World} (hb : Below W.heap.size W w1) : ∀ b o, b < W.heap.size → w1.cell? ⟨b, o, none⟩ = W.cell? ⟨b, o, none⟩ := fun b o h => hb.cell (p := ⟨b, o, none⟩) h

set_option maxRecDepth 100000 in
set_option maxHeartbeats 1000000 in
theorem back_short (a b c d e0 f g : ByteArray) (x y : Int) (w : World) (ha : a.size ≤ 131072) (hb : b.size ≤ 131072) (hc : c.size ≤ 131072) (hd : d.size ≤ 131072) (he : e0.size ≤ 131072) (hf : f.size ≤ 131072) (hg : g.size ≤ 131072) :
    Calls Try.prog 4 #[.string a, .string b, .string c, .string d, .string e0, .string f, .string g, .int .i64 x, .int .i64 y] w fun e w' => e = .returned (.bool true) ∧ Below w.heap.size w w' := by
  have h10 := hide (bytes10 a b c d e0 f g x y w (by unfold maxLen; omega) (by unfold maxLen; omega) (by unfold maxLen; omega) (by unfold maxLen; omega) (by unfold maxLen; omega) (by unfold maxLen; omega) (by unfold maxLen; omega))
  have d0 : decide ((131072 : Int) < (a.size : Int)) = false := by simp; omega
  have d1 : decide ((131072 : Int) < (b.size : Int)) = false := by simp; omega
  have d2 : decide ((131072 : Int) < (c.size : Int)) = false := by simp; omega
  have d3 : decide ((131072 : Int) < (d.size : Int)) = false := by simp; omega
  have d4 : decide ((131072 : Int) < (e0.size : Int)) = false := by simp; omega
  have d5 : decide ((131072 : Int) < (f.size : Int)) = false := by simp; omega
  have d6 : decide ((131072 : Int) < (g.size : Int)) = false := by simp; omega
  clear ha hb hc hd he hf
  go_enter Try.func4, Try.ntmps4
  go_wp2_with (go_at_call 10; refine (unhide h10).mono ?_; rintro e w' ⟨⟨r, rfl⟩, rfl⟩)
  · go_ret
    exact ⟨rfl, Below.refl _ _⟩
  clear h10
  go_region_with (first
    | (go_at_call 11; refine (change_any _ _ _ _ _ _).mono ?_; rintro e w1 ⟨rfl, hb1⟩; have q1 : ∀ o, w1.cell? ⟨w'.heap.size, o, none⟩ = (full a b c d e0 f g x y)[o]? := (fun o => (hb1.cell (p := ⟨w'.heap.size, o, none⟩) (by simp)).trans (by simp [full])); have z1 : w'.heap.size < w1.heap.size := (by have := hb1.size; simp at this; omega); unfold full at q1)
    | (go_at_call 9; refine (new_any _ _ _ _ _ _ _ _ _ _ _ _ _ _ _ _).mono ?_; rintro e w2 ⟨B1, rfl, j1, hb2⟩; have J1 := hide j1; clear j1))
  all_goals (
    have B2 : Hid (Below w'.heap.size w' w2) := by
      have t1 : Below w'.heap.size w' w1 := ((Below.refl _ _).alloc (by simp) _).drew.trans (hb1.mono (by simp))
      exact (t1.alloc t1.size _).trans (hb2.mono (by have := t1.size; simp; omega))
    clear hb1 hb2 q1 z1
    go_wp2_with fail
    refine (new_any _ _ _ _ _ _ _ _ _ _ _ _ _ _ _ _).mono ?_
    rintro e w3 ⟨P2, rfl, j2, b3⟩
    have J2 := hide j2
    have J1' := hide ((unhide J1).below b3)
    have B3 := hide ((unhide B2).trans (b3.mono (unhide B2).size))
    clear j2 b3 B2 J1
    go_wp2_with fail
    refine (new_any _ _ _ _ _ _ _ _ _ _ _ _ _ _ _ _).mono ?_
    rintro e w4 ⟨P3, rfl, j3, b4⟩
    have K3 := hide j3
    have K2 := hide ((unhide J2).below b4)
    have K1 := hide ((unhide J1').below b4)
    have B4 := hide ((unhide B3).trans (b4.mono (unhide B3).size))
    clear j3 b4 B3 J2 J1'
    go_wp2_with fail
    refine (call_any _ g _ (unhide K1) (by omega)).mono ?_
    rintro e w5 ⟨rfl, rfl⟩
    go_wp2_with fail
    refine (call_any _ g _ (unhide K2) (by omega)).mono ?_
    rintro e w6 ⟨rfl, rfl⟩
    go_wp2_with fail
    refine (call_any _ _ _ (unhide K3) (by decide)).mono ?_
    rintro e w7 ⟨rfl, rfl⟩
    have hps : pre.size = 6 := rfl
    have e1 := head_is g
    have e2 := tail_is g
    clear K1 K2 K3
    go_wp2
    go_ret
    exact ⟨rfl, unhide B4⟩)
end Go.Proofs.Qxb6615060a

namespace Go.Proofs.Qxb6615060a
open Go.RowKit
theorem back_walk (a b c d e f g : ByteArray) (x y : Int) (w : World) (ha : a.size ≤ maxLen) (hb : b.size ≤ maxLen) (hc : c.size ≤ maxLen) (hd : d.size ≤ maxLen) (he : e.size ≤ maxLen) (hf : f.size ≤ maxLen) (hg : g.size ≤ maxLen) :
    Calls Try.prog 4 #[.string a, .string b, .string c, .string d, .string e, .string f, .string g, .int .i64 x, .int .i64 y] w fun e w' => e = .returned (.bool true) ∧ Below w.heap.size w w' := by
  by_cases h : 131072 < a.size ∨ 131072 < b.size ∨ 131072 < c.size ∨ 131072 < d.size ∨ 131072 < e.size ∨ 131072 < f.size ∨ 131072 < g.size
  · exact back_long a b c d e f g x y w ha hb hc hd he hf hg h
  · exact back_short a b c d e f g x y w (by omega) (by omega) (by omega) (by omega) (by omega) (by omega) (by omega)
end Go.Proofs.Qxb6615060a
