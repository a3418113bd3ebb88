import Derived.Test.Qxb6614376aMid
import Derived.LaidEqlPtr
namespace Go.Proofs.Qxb6614376a
open Go.RowKit

set_option maxRecDepth 100000 in
set_option maxHeartbeats 1000000 in
theorem idem_walk (t a : Int) (w : World) (ha0 : -9223372036854775808 ≤ a) (ha1 : a ≤ 9223372036854775807) :
    Calls Try.prog 3 #[.int .i64 t, .int .i64 a] w fun e w' => e = .returned (.bool true) ∧ Below w.heap.size w w' := by
  have hpt := fun (w : World) (a : Addr) => run_eql_ptr_same (P := Try.prog) (w := w) (j := Try.t58) a Try.underlying24 (by kernel_rfl)
  go_enter Try.func3, Try.ntmps3
  go_wp2_with fail
  refine (new_any t _).mono ?_
  rintro e w1 ⟨rfl, m1, b1⟩
  have M1 := hide m1
  have B1 := hide b1
  clear m1 b1
  generalize hm : w.heap.size + 1 + 1 = m at *
  have hmw : Hid (w.heap.size ≤ m) := by exact (by omega : w.heap.size ≤ m)
  clear hm
  generalize hvb : w.heap.size + 1 = vb at *
  clear hvb
  go_wp2_with fail
  refine (verifier_any m _ _ _ (unhide M1)).mono ?_
  rintro e w1' ⟨rfl, rfl⟩
  go_wp2_with fail
  refine (apply_any a m _ _ _ (unhide M1)).mono ?_
  rintro e w2 ⟨rfl, hw2⟩
  have M2 := hide ((unhide M1).applied_same a)
  rw [← hw2] at M2
  have B2 : Hid (Below w.heap.size w w2) := by rw [hw2]; exact (unhide B1).trans (below_applied _ m a _ (unhide hmw) (unhide B1).size)
  clear hw2 M1 B1
  go_wp2_with fail
  refine (new_any t _).mono ?_
  rintro e w4 ⟨rfl, m2, b4⟩
  have N4 := hide m2
  have M4 := hide ((unhide M2).below b4)
  have B4 := hide ((unhide B2).trans (b4.mono (unhide B2).size))
  have hmn : Hid (m < w2.heap.size) := (unhide M2).1
  clear m2 b4 M2
  generalize hn : w2.heap.size + 1 + 1 = n at *
  have hnw : Hid (w.heap.size ≤ n ∧ m ≠ n) := by
    have h1 := (unhide B2).size
    have h2 := unhide hmn
    exact (by omega : w.heap.size ≤ n ∧ m ≠ n)
  clear hn B2 hmn
  generalize hvc : w2.heap.size + 1 = vc at *
  clear hvc
  go_wp2_with fail
  refine (verifier_any n _ _ _ (unhide N4)).mono ?_
  rintro e w4' ⟨rfl, rfl⟩
  go_wp2_with fail
  refine (apply_any a n _ _ _ (unhide N4)).mono ?_
  rintro e w5 ⟨rfl, hw5⟩
  have N5 := hide ((unhide N4).applied_same a)
  rw [← hw5] at N5
  have M5 := hide ((unhide M4).applied_other (unhide hnw).2 a)
  rw [← hw5] at M5
  have B5 : Hid (Below w.heap.size w w5) := by rw [hw5]; exact (unhide B4).trans (below_applied _ n a _ (unhide hnw).1 (unhide B4).size)
  clear hw5 N4 M4 B4
  go_wp2_with fail
  refine (apply_any a n _ _ _ (unhide N5)).mono ?_
  rintro e w6 ⟨rfl, hw6⟩
  have N6 := hide ((unhide N5).applied_same a)
  rw [← hw6] at N6
  have M6 := hide ((unhide M5).applied_other (unhide hnw).2 a)
  rw [← hw6] at M6
  have B6 : Hid (Below w.heap.size w w6) := by rw [hw6]; exact (unhide B5).trans (below_applied _ n a _ (unhide hnw).1 (unhide B5).size)
  clear hw6 N5 M5 B5
  go_wp2_with fail
  refine (now_any a m _ _ (unhide M6) ha0 ha1).mono ?_
  rintro e w7 ⟨rfl, b7⟩
  have N7 := hide ((unhide N6).below b7)
  have M7 := hide ((unhide M6).below b7)
  have B7 := hide ((unhide B6).trans (b7.mono (unhide B6).size))
  clear b7 N6 M6 B6
  go_wp2_with fail
  refine (now_any a n _ _ (unhide N7) ha0 ha1).mono ?_
  rintro e w8 ⟨rfl, b8⟩
  have N8 := hide ((unhide N7).below b8)
  have M8 := hide ((unhide M7).below b8)
  have B8 := hide ((unhide B7).trans (b8.mono (unhide B7).size))
  clear b8 N7 M7 B7
  go_wp2_with fail
  refine (verifier_any m _ _ _ (unhide M8)).mono ?_
  rintro e w9 ⟨rfl, rfl⟩
  go_wp2_with fail
  refine (verifier_any n _ _ _ (unhide N8)).mono ?_
  rintro e w10 ⟨rfl, rfl⟩
  go_wp2
  go_ret
  exact ⟨rfl, unhide B8⟩
end Go.Proofs.Qxb6614376a
