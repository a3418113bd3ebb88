import Derived.Test.Qxb6614376aSub
namespace Go.Proofs.Qxb6614376a
open Go.RowKit

/-- A middleware at block m: its Verifier is v, its clock reads t. -/
def Mid (w : World) (m : Nat) (v : Value) (t : Int) : Prop :=
  m < w.heap.size ∧ w.cell? ⟨m, 0, none⟩ = some v ∧ w.frozen? ⟨m, 1, none⟩ = false ∧
  ∃ g b, (g = 23 ∨ g = 26) ∧ b < w.heap.size ∧ w.cell? ⟨m, 1, none⟩ = some (.func (.func g) #[] #[.pointer (some ⟨b, 0, none⟩)]) ∧ w.cell? ⟨b, 0, none⟩ = some (.int .i64 t)

theorem Mid.below {w w' : World} {m : Nat} {v : Value} {t : Int} (h : Mid w m v t) (hb : Below w.heap.size w w') : Mid w' m v t := by
  obtain ⟨h1, h2, h3, g, b, hg, hbb, h4, h5⟩ := h
  exact ⟨Nat.lt_of_lt_of_le h1 hb.size, (hb.cell (p := ⟨m, 0, none⟩) h1).trans h2, (hb.frozen (p := ⟨m, 1, none⟩) h1).trans h3, g, b, hg, Nat.lt_of_lt_of_le hbb hb.size, (hb.cell (p := ⟨m, 1, none⟩) h1).trans h4, (hb.cell (p := ⟨b, 0, none⟩) hbb).trans h5⟩

/-- What the option writes: two new boxes, and the field. -/
def applied (w : World) (m : Nat) (t : Int) : World :=
  ((w.setCell ⟨m, 1, none⟩ (.func (.func 26) #[] #[.pointer (some ⟨w.heap.size, 0, none⟩)])).alloc (.cells #[.int .i64 t] 2)).alloc (.cells #[.func (.func 26) #[] #[.pointer (some ⟨w.heap.size, 0, none⟩)]] 65)

theorem below_applied (w : World) (m : Nat) (t : Int) (B : Nat) (hB : B ≤ m) (hs : B ≤ w.heap.size) : Below B w (applied w m t) :=
  (((Below.refl _ _).setCell hB _).alloc (by simpa using hs) _).alloc (by simp; omega) _

theorem applied_old (w : World) (m : Nat) (t : Int) (b o : Nat) (hb : b < w.heap.size) (hne : b ≠ m ∨ o ≠ 1) : (applied w m t).cell? ⟨b, o, none⟩ = w.cell? ⟨b, o, none⟩ := by
  unfold applied
  rw [World.cell?_alloc_past _ _ _ (by simp; omega), World.cell?_alloc_past _ _ _ (by simp; omega)]
  exact World.cell?_setCell_other _ _ _ _ (fun e => by simp only [Addr.mk.injEq, and_true] at e; omega)

theorem applied_frozen (w : World) (m : Nat) (t : Int) (b o : Nat) (hb : b < w.heap.size) : (applied w m t).frozen? ⟨b, o, none⟩ = w.frozen? ⟨b, o, none⟩ := by
  unfold applied
  rw [World.frozen?_alloc_past _ _ _ (by simp; omega), World.frozen?_alloc_past _ _ _ (by simp; omega), World.frozen?_setCell]

theorem applied_size (w : World) (m : Nat) (t : Int) : (applied w m t).heap.size = w.heap.size + 2 := by simp [applied]

theorem Mid.applied_same {w : World} {m : Nat} {v : Value} {t0 : Int} (h : Mid w m v t0) (t : Int) : Mid (applied w m t) m v t := by
  obtain ⟨h1, h2, h3, g, b, hg, hbb, h4, h5⟩ := h
  refine ⟨by rw [applied_size]; omega, (applied_old w m t m 0 h1 (.inr (by omega))).trans h2, (applied_frozen w m t m 1 h1).trans h3, 26, w.heap.size, .inr rfl, by rw [applied_size]; omega, ?_, ?_⟩
  · unfold applied
    rw [World.cell?_alloc_past _ _ _ (by simp; omega), World.cell?_alloc_past _ _ _ (by simp; omega)]
    exact World.cell?_setCell_same _ _ _ h4
  · unfold applied
    rw [World.cell?_alloc_past _ _ _ (by simp), World.cell?_alloc_at _ _ _ _ (by simp)]
    rfl

theorem Mid.applied_other {w : World} {m m' : Nat} {v : Value} {t0 : Int} (h : Mid w m' v t0) (hne : m' ≠ m) (t : Int) : Mid (applied w m t) m' v t0 := by
  obtain ⟨h1, h2, h3, g, b, hg, hbb, h4, h5⟩ := h
  exact ⟨by rw [applied_size]; omega, (applied_old w m t m' 0 h1 (.inl hne)).trans h2, (applied_frozen w m t m' 1 h1).trans h3, g, b, hg, by rw [applied_size]; omega, (applied_old w m t m' 1 h1 (.inl hne)).trans h4, (applied_old w m t b 0 hbb (.inr (by omega))).trans h5⟩

theorem mid_new (w : World) (t : Int) (vs : Array Value) : Mid (((w.alloc (.cells #[.int .i64 t] 2)).alloc (.cells vs 58)).alloc (.cells #[.pointer (some ⟨w.heap.size + 1, 0, none⟩), .func (.func 23) #[] #[.pointer (some ⟨w.heap.size, 0, none⟩)]] 67)) (w.heap.size + 1 + 1) (.pointer (some ⟨w.heap.size + 1, 0, none⟩)) t := by
  refine ⟨by simp, ?_, ?_, 23, w.heap.size, .inl rfl, by simp; omega, ?_, ?_⟩
  · rw [World.cell?_alloc_at _ _ _ _ (by simp)]; rfl
  · exact World.frozen?_alloc_at _ _ _ _ (by simp)
  · rw [World.cell?_alloc_at _ _ _ _ (by simp)]; rfl
  · rw [World.cell?_alloc_past _ _ _ (by simp; omega), World.cell?_alloc_past _ _ _ (by simp), World.cell?_alloc_at _ _ _ _ rfl]; rfl

set_option maxRecDepth 100000 in
set_option maxHeartbeats 400000 in
theorem new_any (at0 : Int) (w : World) :
    Calls Try.prog 8 #[.int .i64 at0] w fun e w' => e = .returned (.pointer (some ⟨w.heap.size + 1 + 1, 0, none⟩)) ∧ Mid w' (w.heap.size + 1 + 1) (.pointer (some ⟨w.heap.size + 1, 0, none⟩)) at0 ∧ Below w.heap.size w w' := by
  have hmf : ∀ (fn : Fn) (first cap : Array Value) (w : World), (Instr.makeFunc fn first cap).run Try.prog w = .ok (.func fn first cap) w := fun _ _ _ _ => rfl
  go_enter Try.func8, Try.ntmps8
  go_wp2
  go_ret
  exact ⟨rfl, mid_new w at0 _, (((Below.refl _ _).alloc (by simp) _).alloc (by simp) _).alloc (by simp; omega) _⟩

set_option maxRecDepth 100000 in
set_option maxHeartbeats 400000 in
theorem verifier_any (m : Nat) (v : Value) (t : Int) (w : World) (h : Mid w m v t) :
    Calls Try.prog 9 #[.pointer (some ⟨m, 0, none⟩)] w fun e w' => e = .returned v ∧ w' = w := by
  obtain ⟨h1, h2, _⟩ := h
  go_enter Try.func9, Try.ntmps9
  go_wp2
  go_ret
  exact ⟨rfl, rfl⟩

set_option maxRecDepth 100000 in
set_option maxHeartbeats 400000 in
theorem apply_any (t : Int) (m : Nat) (v : Value) (t0 : Int) (w : World) (h : Mid w m v t0) :
    Calls Try.prog 10 #[.pointer (some ⟨m, 0, none⟩), .int .i64 t] w fun e w' => e = .returned (.tuple #[]) ∧ w' = applied w m t := by
  obtain ⟨hm, h2, hf, g, b, hg, hbb, hc, h5⟩ := h
  have hmf : ∀ (fn : Fn) (first cap : Array Value) (w : World), (Instr.makeFunc fn first cap).run Try.prog w = .ok (.func fn first cap) w := fun _ _ _ _ => rfl
  clear hg h5 h2
  go_enter Try.func10, Try.ntmps10
  go_wp2
  go_end0
  go_wp2
  go_end0
  exact ⟨rfl, rfl⟩

set_option maxRecDepth 100000 in
set_option maxHeartbeats 400000 in
theorem clock26 (t : Int) (b : Nat) (w : World) (hlo : -9223372036854775808 ≤ t) (hhi : t ≤ 9223372036854775807) (hbb : b < w.heap.size) (hc : w.cell? ⟨b, 0, none⟩ = some (.int .i64 t)) :
    Calls Try.prog 26 #[.pointer (some ⟨b, 0, none⟩)] w fun e w' => e = .returned (timeAt t) ∧ Below w.heap.size w w' := by
  have hA := hide (fun w => add_any t w hlo hhi)
  unfold timeAt
  unfold timeAt at hA
  generalize t % 1000000000 = n at *
  generalize t / 1000000000 = x at *
  go_enter Try.func26, Try.ntmps26
  go_wp2_with fail
  refine (unhide hA _).mono ?_
  rintro e w1 ⟨rfl, hb1⟩
  have q0 : w1.cell? ⟨w.heap.size, 0, none⟩ = some (.int .u64 0) := (hb1.cell (p := ⟨w.heap.size, 0, none⟩) (by simp)).trans (by simp)
  have q1 : w1.cell? ⟨w.heap.size, 1, none⟩ = some (.int .i64 0) := (hb1.cell (p := ⟨w.heap.size, 1, none⟩) (by simp)).trans (by simp)
  have q2 : w1.cell? ⟨w.heap.size, 2, none⟩ = some (.pointer none) := (hb1.cell (p := ⟨w.heap.size, 2, none⟩) (by simp)).trans (by simp)
  have f0 : w1.frozen? ⟨w.heap.size, 0, none⟩ = false := (hb1.frozen (p := ⟨w.heap.size, 0, none⟩) (by simp)).trans (by simp)
  have f1 : w1.frozen? ⟨w.heap.size, 1, none⟩ = false := (hb1.frozen (p := ⟨w.heap.size, 1, none⟩) (by simp)).trans (by simp)
  have f2 : w1.frozen? ⟨w.heap.size, 2, none⟩ = false := (hb1.frozen (p := ⟨w.heap.size, 2, none⟩) (by simp)).trans (by simp)
  have hb2 : Below w.heap.size w w1 := ((Below.refl _ _).alloc (by simp) _).trans (hb1.mono (by simp))
  have HB := hide hb2
  clear hb1 hb2
  go_wp2
  refine bodyPost_ret (v := .agg #[.int .u64 n, .int .i64 x, .pointer none]) (by simp [results, Try.results26, go_sem, q0, q1, q2]) rfl ⟨rfl, (((unhide HB).setCell (Nat.le_refl _) _).setCell (Nat.le_refl _) _).setCell (Nat.le_refl _) _⟩

set_option maxRecDepth 100000 in
set_option maxHeartbeats 400000 in
theorem clock23 (t : Int) (b : Nat) (w : World) (hlo : -9223372036854775808 ≤ t) (hhi : t ≤ 9223372036854775807) (hbb : b < w.heap.size) (hc : w.cell? ⟨b, 0, none⟩ = some (.int .i64 t)) :
    Calls Try.prog 23 #[.pointer (some ⟨b, 0, none⟩)] w fun e w' => e = .returned (timeAt t) ∧ Below w.heap.size w w' := by
  have hA := hide (fun w => add_any t w hlo hhi)
  unfold timeAt
  unfold timeAt at hA
  generalize t % 1000000000 = n at *
  generalize t / 1000000000 = x at *
  go_enter Try.func23, Try.ntmps23
  go_wp2_with fail
  refine (unhide hA _).mono ?_
  rintro e w1 ⟨rfl, hb1⟩
  have q0 : w1.cell? ⟨w.heap.size, 0, none⟩ = some (.int .u64 0) := (hb1.cell (p := ⟨w.heap.size, 0, none⟩) (by simp)).trans (by simp)
  have q1 : w1.cell? ⟨w.heap.size, 1, none⟩ = some (.int .i64 0) := (hb1.cell (p := ⟨w.heap.size, 1, none⟩) (by simp)).trans (by simp)
  have q2 : w1.cell? ⟨w.heap.size, 2, none⟩ = some (.pointer none) := (hb1.cell (p := ⟨w.heap.size, 2, none⟩) (by simp)).trans (by simp)
  have f0 : w1.frozen? ⟨w.heap.size, 0, none⟩ = false := (hb1.frozen (p := ⟨w.heap.size, 0, none⟩) (by simp)).trans (by simp)
  have f1 : w1.frozen? ⟨w.heap.size, 1, none⟩ = false := (hb1.frozen (p := ⟨w.heap.size, 1, none⟩) (by simp)).trans (by simp)
  have f2 : w1.frozen? ⟨w.heap.size, 2, none⟩ = false := (hb1.frozen (p := ⟨w.heap.size, 2, none⟩) (by simp)).trans (by simp)
  have hb2 : Below w.heap.size w w1 := ((Below.refl _ _).alloc (by simp) _).trans (hb1.mono (by simp))
  have HB := hide hb2
  clear hb1 hb2
  go_wp2
  refine bodyPost_ret (v := .agg #[.int .u64 n, .int .i64 x, .pointer none]) (by simp [results, Try.results23, go_sem, q0, q1, q2]) rfl ⟨rfl, (((unhide HB).setCell (Nat.le_refl _) _).setCell (Nat.le_refl _) _).setCell (Nat.le_refl _) _⟩

set_option maxRecDepth 100000 in
set_option maxHeartbeats 400000 in
theorem now_any (t : Int) (m : Nat) (v : Value) (w : World) (h : Mid w m v t) (hlo : -9223372036854775808 ≤ t) (hhi : t ≤ 9223372036854775807) :
    Calls Try.prog 11 #[.pointer (some ⟨m, 0, none⟩)] w fun e w' => e = .returned (.int .i64 t) ∧ Below w.heap.size w w' := by
  obtain ⟨hm, h2, hf, g, b, rfl | rfl, hbb, hc, h5⟩ := h
  · have HC := hide (clock23 t b w hlo hhi hbb h5)
    have HS := hide (fun w => sub_any t w hlo hhi)
    generalize timeAt t = T at *
    go_enter Try.func11, Try.ntmps11
    go_wp2_with fail
    refine (unhide HC).mono ?_
    rintro e w1 ⟨rfl, hb1⟩
    go_wp2_with fail
    refine (unhide HS _).mono ?_
    rintro e w2 ⟨rfl, hb2⟩
    go_wp2
    go_ret
    exact ⟨rfl, hb1.trans (hb2.mono hb1.size)⟩
  · have HC := hide (clock26 t b w hlo hhi hbb h5)
    have HS := hide (fun w => sub_any t w hlo hhi)
    generalize timeAt t = T at *
    go_enter Try.func11, Try.ntmps11
    go_wp2_with fail
    refine (unhide HC).mono ?_
    rintro e w1 ⟨rfl, hb1⟩
    go_wp2_with fail
    refine (unhide HS _).mono ?_
    rintro e w2 ⟨rfl, hb2⟩
    go_wp2
    go_ret
    exact ⟨rfl, hb1.trans (hb2.mono hb1.size)⟩
end Go.Proofs.Qxb6614376a
