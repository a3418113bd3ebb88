import Derived.Test.Qxb6615060aBuild
namespace Go.Proofs.Qxb6615060a
open Go.RowKit

theorem cat_toList (a b : ByteArray) : (a ++ b).toList = a.toList ++ b.toList := by
  rw [ByteArray.toList_eq, ByteArray.toList_eq, ByteArray.toList_eq, ByteArray.data_append, Array.toList_append]

theorem fn_inj (a b : ByteArray) : ((pre ++ a).toList == (pre ++ b).toList) = (a.toList == b.toList) := by
  rw [cat_toList, cat_toList, Bool.eq_iff_iff]
  simp

theorem fn_cat (a b : ByteArray) : ((pre ++ (a ++ b)).toList == (pre ++ a ++ b).toList) = true := by
  rw [cat_toList, cat_toList, cat_toList, cat_toList]
  simp

set_option maxRecDepth 100000 in
set_option maxHeartbeats 400000 in
theorem inj_walk (a b : ByteArray) (w : World) (ha : a.size ≤ maxLen) (hb : b.size ≤ maxLen) :
    Calls Try.prog 3 #[.string a, .string b] w fun e w' => e = .returned (.bool true) ∧ Below w.heap.size w w' := by
  have h7 := hide (bytes7 a b w ha hb)
  unfold maxLen at ha hb
  by_cases h1 : (524288 : Int) < (a.size : Int)
  · go_enter Try.func3, Try.ntmps3
    go_wp2_with (go_at_call 7; refine (unhide h7).mono ?_; rintro e w' ⟨⟨r, rfl⟩, rfl⟩)
    all_goals (go_ret; exact ⟨rfl, Below.refl _ _⟩)
  by_cases h2 : (524288 : Int) < (b.size : Int)
  · have d1 : decide ((524288 : Int) < (a.size : Int)) = false := by simp; omega
    go_enter Try.func3, Try.ntmps3
    go_wp2_with (go_at_call 7; refine (unhide h7).mono ?_; rintro e w' ⟨⟨r, rfl⟩, rfl⟩)
    all_goals (go_ret; exact ⟨rfl, Below.refl _ _⟩)
  have d1 : decide ((524288 : Int) < (a.size : Int)) = false := by simp; omega
  have d2 : decide ((524288 : Int) < (b.size : Int)) = false := by simp; omega
  go_enter Try.func3, Try.ntmps3
  go_wp2_with (go_at_call 7; refine (unhide h7).mono ?_; rintro e w' ⟨⟨r, rfl⟩, rfl⟩)
  · go_ret
    exact ⟨rfl, Below.refl _ _⟩
  refine (new_any _ _ _ _ _ _ _ _ _ _ _ _ _ _ _ _).mono ?_
  rintro e w1 ⟨B1, rfl, j1, b1⟩
  have J1 := hide j1
  have hB := hide b1
  clear j1 b1
  go_wp2_with fail
  refine (call_any B1 a _ (unhide J1) (by omega)).mono ?_
  rintro e w1' ⟨rfl, rfl⟩
  go_wp2_with fail
  refine (new_any _ _ _ _ _ _ _ _ _ _ _ _ _ _ _ _).mono ?_
  rintro e w2 ⟨B2, rfl, j2, b2⟩
  have J2 := hide j2
  have hB2 := hide ((unhide hB).trans (b2.mono (unhide hB).size))
  clear j2 b2 hB J1
  go_wp2_with fail
  refine (call_any B2 b _ (unhide J2) (by omega)).mono ?_
  rintro e w2' ⟨rfl, rfl⟩
  go_wp2_with fail
  refine (new_any _ _ _ _ _ _ _ _ _ _ _ _ _ _ _ _).mono ?_
  rintro e w3 ⟨B3, rfl, j3, b3⟩
  have J3 := hide j3
  have hB3 := hide ((unhide hB2).trans (b3.mono (unhide hB2).size))
  clear j3 b3 hB2 J2
  go_wp2_with fail
  refine (call_any B3 (a ++ b) _ (unhide J3) (by rw [ByteArray.size_append]; omega)).mono ?_
  rintro e w3' ⟨rfl, rfl⟩
  have hps : pre.size = 6 := rfl
  have e1 := fn_inj a b
  have e2 := fn_cat a b
  clear h7 J3
  go_wp2
  go_ret
  exact ⟨rfl, unhide hB3⟩
end Go.Proofs.Qxb6615060a
