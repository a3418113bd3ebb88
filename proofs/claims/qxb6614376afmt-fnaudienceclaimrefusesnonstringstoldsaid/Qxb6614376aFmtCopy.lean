import Derived.Test.Qxb6614376aFmtGive
namespace Go.Proofs.Qxb6614376aFmt
open Go.RowKit

/-- A row of strings in a block, from its first cell on. -/
def RowIn (w : World) (B n : Nat) (ss : Nat → ByteArray) : Prop := B < w.heap.size ∧ ∀ j, j < n → w.cell? ⟨B, j, none⟩ = some (.string (ss j))

theorem RowIn.below {w w' : World} {B n : Nat} {ss : Nat → ByteArray} (h : RowIn w B n ss) (hb : Below w.heap.size w w') : RowIn w' B n ss :=
  ⟨Nat.lt_of_lt_of_le h.1 hb.size, fun j hj => (hb.cell (p := ⟨B, j, none⟩) h.1).trans (h.2 j hj)⟩
theorem RowIn.row {w : World} {B n : Nat} {ss : Nat → ByteArray} (h : RowIn w B n ss) (cap : Nat) : StrRow w (.slice (some ⟨B, 0, none⟩) n cap) n ss :=
  .inr ⟨B, 0, cap, rfl, h.1, fun j hj => by rw [Nat.zero_add]; exact h.2 j hj⟩
theorem below_drewN' {B : Nat} {a w : World} (h : Below B a w) (n : Nat) : Below B a (w.drewN n) := ⟨h.os, h.tape, h.output, h.size, h.block⟩

/-- 'zzc := make([]string, len(xs)); copy(zzc, xs)': two steps, and what lies there then. -/
theorem make_copy (a : Addr) (n cap : Nat) (ss : Nat → ByteArray) (w : World) (hn : n ≤ 1048576) (hr : StrRow w (.slice (some a) n cap) n ss) :
    ∃ w1 w2, (Instr.makeSlice 22 (.int .i64 (n : Int)) (.int .i64 (n : Int))).run Tryf.prog w = .ok (.slice (some ⟨w.heap.size, 0, none⟩) n n) w1 ∧
      (∀ ty, (Builtin.copy_ #[22, 22] ty #[.slice (some ⟨w.heap.size, 0, none⟩) n n, .slice (some a) n cap]).run Tryf.prog w1 = .ok (.int .i64 (n : Int)) w2) ∧
      RowIn w2 w.heap.size n ss ∧ Below w.heap.size w w2 := by
  obtain ⟨w1, hmk, hown, hgr⟩ := run_make_full (P := Tryf.prog) w w.heap.size 22 9 Tryf.t9 (.string ⟨#[]⟩) 1 Tryf.underlying22 (by kernel_rfl) rfl rfl .i64 .i64 n (by show 16 * n ≤ _; omega) (by unfold maxLen; omega) (Nat.le_refl _)
  have hbel : Below w.heap.size w w1 := (Below.refl _ _).grown hgr (Nat.le_refl _) (fun k h => by cases h)
  have e0 : (madeCells (Value.string ⟨#[]⟩).cells (n * 1)).toList = List.replicate n (.string ⟨#[]⟩) := by
    rw [Nat.mul_one]
    exact toList_madeCells_one _ _
  rw [e0] at hown
  have hlt := (hown.lt w.heap.size rfl).2
  rcases hr with ⟨ao, cap', he, rfl⟩ | ⟨b, off, cap', he, hb, hc⟩
  · refine ⟨w1, w1, hmk, fun ty => ?_, ⟨hlt, fun j hj => by omega⟩, hbel⟩
    exact run_copy_none w1 22 22 ty 9 _ _ 0 0 0 cap Tryf.underlying22 (by kernel_rfl) rfl
  · simp only [Value.slice.injEq, Option.some.injEq, true_and] at he
    obtain ⟨rfl, rfl⟩ := he
    have hcs : ∀ j, j < ((List.range n).map fun j => Value.string (ss j)).length → ∃ v, w1.cell? ⟨w.heap.size, 0 + j, none⟩ = some v := fun j hj => by
      have hj' : j < n := by simpa using hj
      rw [Nat.zero_add]
      exact ⟨.string ⟨#[]⟩, (hown.cellAt j (by omega)).trans (by simp [hj'])⟩
    have hcp : ∀ ty, (Builtin.copy_ #[22, 22] ty #[.slice (some ⟨w.heap.size, 0, none⟩) n n, .slice (some ⟨b, off, none⟩) n cap]).run Tryf.prog w1 = .ok (goInt (((List.range n).map fun j => Value.string (ss j)).length : Nat)) (w1.setCells w.heap.size 0 ((List.range n).map fun j => Value.string (ss j))) := fun ty =>
      run_copy_cells w1 22 22 ty 9 w.heap.size 0 n n ⟨b, off, none⟩ n cap ((List.range n).map fun j => Value.string (ss j)) Tryf.underlying22 (by kernel_rfl) (by simp)
        (fun j v hj => by
          rw [List.getElem?_map] at hj
          obtain ⟨z, hz1, rfl⟩ := Option.map_eq_some_iff.1 hj
          have hjl : j < n := by simpa using (List.getElem?_eq_some_iff.1 hz1).1
          have hz : z = j := by rw [List.getElem?_range hjl] at hz1; exact (Option.some.inj hz1).symm
          subst hz
          rw [show (⟨b, off, none⟩ : Addr).add z = ⟨b, off + z, none⟩ by simp [Addr.add]]
          exact (hbel.cell (p := ⟨b, off + z, none⟩) hb).trans (hc z hjl))
        (fun j hj => by obtain ⟨v, hv⟩ := hcs j hj; rw [hv]; rfl)
        (fun j hj => by rw [Nat.zero_add]; exact hown.frozenAt j)
        (fun v hv => by obtain ⟨j, _, rfl⟩ := List.mem_map.1 hv; rfl)
    have hsz : ∀ (vs : List Value) (o : Nat) (x : World), Below w.heap.size w x → Below w.heap.size w (x.setCells w.heap.size o vs) := by
      intro vs
      induction vs with
      | nil => intro o x h; exact h
      | cons v vs ih => intro o x h; exact ih (o + 1) _ (h.setCell (Nat.le_refl _) v)
    have hszz : ∀ (vs : List Value) (o : Nat) (x : World), (x.setCells w.heap.size o vs).heap.size = x.heap.size := by
      intro vs
      induction vs with
      | nil => intro o x; rfl
      | cons v vs ih => intro o x; show ((x.setCell _ v).setCells _ _ vs).heap.size = _; rw [ih]; simp
    refine ⟨w1, w1.setCells w.heap.size 0 ((List.range n).map fun j => Value.string (ss j)), hmk, fun ty => (hcp ty).trans ?_, ⟨by rw [hszz]; exact hlt, fun j hj => ?_⟩, hsz _ _ _ hbel⟩
    · simp [goInt]
    · have hj' : j < ((List.range n).map fun j => Value.string (ss j)).length := by simpa using hj
      have := World.cell?_setCells_in w.heap.size ((List.range n).map fun j => Value.string (ss j)) 0 w1 (fun j hj => by obtain ⟨v, hv⟩ := hcs j hj; rw [hv]; rfl) j hj'
      rw [Nat.zero_add] at this
      rw [this]
      simp
end Go.Proofs.Qxb6614376aFmt
