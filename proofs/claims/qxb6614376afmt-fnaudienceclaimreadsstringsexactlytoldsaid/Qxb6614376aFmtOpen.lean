import Derived.Test.Qxb6614376aFmtBytes
import Derived.ProofKit
import Derived.ChangeSlices
import Derived.SliceStrings
import Derived.ChangeSame
import Derived.ChangeMaps5
import Derived.JoinedOf
import Derived.Carry
import Derived.Stop.JoinedAt
import Derived.Stop.Texts
import Derived.Stop.JoinedTold
import Derived.SizedLaws
import Derived.SevenToldRow
namespace Go.Proofs.Qxb6614376aFmt
open Go.ChangeShapes Go.WideShapes Go.ChangeAt Go.RowKit Go.Kit
open Go.ChangeMaps (open_string shut_string)
open Go.Extern.Stop Go.Stop Go.Extern

theorem Tryf.own : ownKnob Tryf.prog.godebug = none := by kernel_rfl
theorem Tryf.laidOut : laidOutB Tryf.pinned.checked.prog = true := by kernel_rfl
theorem Tryf.cells9 : Tryf.prog.cellsOf 9 = 1 := by kernel_rfl
theorem Tryf.stops : Tryf.pinned.checked.prog.stops = ["fmt.errorf"] := by kernel_rfl
theorem Tryf.stopKnobs : Tryf.pinned.checked.prog.stopKnobs = [] := by kernel_rfl
theorem Tryf.quiet (os : Os) : Stop.quiet Tryf.pinned.checked.prog os := by
  intro k hk
  rw [Tryf.stopKnobs] at hk
  cases hk

theorem cell_is {w : World} {a : Addr} {v : Value} (h : w.cell? a = some v) : a.spot = none ∧ a.block < w.heap.size := by
  unfold World.cell? at h
  split at h
  · rename_i c t fz hb
    have hlt : a.block < w.heap.size := by
      rcases Nat.lt_or_ge a.block w.heap.size with hl | hg
      · exact hl
      · rw [Array.getElem?_eq_none hg] at hb; cases hb
    cases hs : a.spot with
    | none => exact ⟨rfl, hlt⟩
    | some q => rw [hs] at h; simp at h
  · cases h

/-- A slice of strings that came in, as the walks take it. -/
theorem open_row {H : Type} {enc : TypeId × Value → H} {W : World} {spare : Nat → Bool} {held : Bool} {fuel : Nat} {a0 : Option Addr} {len cap : Nat} {x : DataW H × List MemPlace}
    (hf : DataW.trod enc Tryf.prog W 0 spare held fuel 22 [.slice a0 len cap] = some x) :
    ∃ ss : Nat → ByteArray, len ≤ maxLen ∧ (∀ j, j < len → (ss j).size ≤ maxLen) ∧ (Value.slice a0 len cap = .slice none 0 0 ∨ ∃ a c, Value.slice a0 len cap = .slice (some a) len c) ∧ StrRow W (.slice a0 len cap) len ss := by
  rcases open_strings Tryf.underlying22 Tryf.underlying9 Tryf.cells9 hf with ⟨hcs, hx⟩ | ⟨a, len', cap', ss, hcs, _, hl, hm, hz, hx, hcell, hsz⟩
  · simp at hcs
    obtain ⟨rfl, rfl, rfl⟩ := hcs
    exact ⟨fun _ => ByteArray.empty, by decide, fun j hj => by omega, .inl rfl, .inl ⟨_, _, rfl, rfl⟩⟩
  · simp at hcs
    obtain ⟨rfl, rfl, rfl⟩ := hcs
    have hlen : len ≤ ss.length := by
      rw [hz]
      split
      · exact hl
      · exact Nat.le_refl _
    refine ⟨fun j => ss.getD j ByteArray.empty, Nat.le_trans hl hm, fun j hj => ?_, .inr ⟨a, cap, rfl⟩, ?_⟩
    · have hj' : j < ss.length := by omega
      have e : ss.getD j ByteArray.empty = ss[j] := by simp [List.getD, hj']
      show (ss.getD j ByteArray.empty).size ≤ maxLen
      rw [e]
      exact hsz _ (List.getElem_mem hj')
    · by_cases h0 : len = 0
      · subst h0
        exact .inl ⟨_, _, rfl, rfl⟩
      · have hc0 := cell_is (hcell 0 (by omega))
        obtain ⟨b, off, sp⟩ := a
        obtain rfl : sp = none := hc0.1
        exact .inr ⟨b, off, cap, rfl, hc0.2, fun j hj => by
          have hj1 := hcell j (by omega)
          rwa [show (⟨b, off, none⟩ : Addr).add j = ⟨b, off + j, none⟩ by simp [Addr.add]] at hj1⟩

end Go.Proofs.Qxb6614376aFmt
