import Derived.Test.Qxb6614376aFmtReads
import Derived.ProofKit
import Derived.ChangeSlices
import Derived.SliceStrings
import Derived.ChangeSame
import Derived.ChangeMaps5
import Derived.JoinedOf
import Derived.Carry
import Derived.Stop.JoinedAt
import Derived.Stop.Texts
import Derived.Stop.JoinedTold
import Derived.SizedLaws
import Derived.SevenToldRow
namespace Go.Proofs.Qxb6614376aFmt
open Go.ChangeShapes Go.WideShapes Go.ChangeAt Go.RowKit Go.Kit
open Go.ChangeMaps (open_string shut_string)
open Go.Extern.Stop Go.Stop Go.Extern

theorem Tryf.own : ownKnob Tryf.prog.godebug = none := by kernel_rfl
theorem Tryf.laidOut : laidOutB Tryf.pinned.checked.prog = true := by kernel_rfl
theorem Tryf.cells9 : Tryf.prog.cellsOf 9 = 1 := by kernel_rfl
theorem Tryf.stops : Tryf.pinned.checked.prog.stops = ["fmt.errorf"] := by kernel_rfl
theorem Tryf.stopKnobs : Tryf.pinned.checked.prog.stopKnobs = [] := by kernel_rfl
theorem Tryf.quiet (os : Os) : Stop.quiet Tryf.pinned.checked.prog os := by
  intro k hk
  rw [Tryf.stopKnobs] at hk
  cases hk

theorem cell_is {w : World} {a : Addr} {v : Value} (h : w.cell? a = some v) : a.spot = none ∧ a.block < w.heap.size := by
  unfold World.cell? at h
  split at h
  · rename_i c t fz hb
    have hlt : a.block < w.heap.size := by
      rcases Nat.lt_or_ge a.block w.heap.size with hl | hg
      · exact hl
      · rw [Array.getElem?_eq_none hg] at hb; cases hb
    cases hs : a.spot with
    | none => exact ⟨rfl, hlt⟩
    | some q => rw [hs] at h; simp at h
  · cases h

/-- A slice of strings that came in, as the walks take it. -/
theorem open_row {H : Type} {enc : TypeId × Value → H} {W : World} {spare : Nat → Bool} {held : Bool} {fuel : Nat} {a0 : Option Addr} {len cap : Nat} {x : DataW H × List MemPlace}
    (hf : DataW.trod enc Tryf.prog W 0 spare held fuel 22 [.slice a0 len cap] = some x) :
    ∃ ss : Nat → ByteArray, len ≤ maxLen ∧ (∀ j, j < len → (ss j).size ≤ maxLen) ∧ (Value.slice a0 len cap = .slice none 0 0 ∨ ∃ a c, Value.slice a0 len cap = .slice (some a) len c) ∧ StrRow W (.slice a0 len cap) len ss := by
  rcases open_strings Tryf.underlying22 Tryf.underlying9 Tryf.cells9 hf with ⟨hcs, hx⟩ | ⟨a, len', cap', ss, hcs, _, hl, hm, hz, hx, hcell, hsz⟩
  · simp at hcs
    obtain ⟨rfl, rfl, rfl⟩ := hcs
    exact ⟨fun _ => ByteArray.empty, by decide, fun j hj => by omega, .inl rfl, .inl ⟨_, _, rfl, rfl⟩⟩
  · simp at hcs
    obtain ⟨rfl, rfl, rfl⟩ := hcs
    have hlen : len ≤ ss.length := by
      rw [hz]
      split
      · exact hl
      · exact Nat.le_refl _
    refine ⟨fun j => ss.getD j ByteArray.empty, Nat.le_trans hl hm, fun j hj => ?_, .inr ⟨a, cap, rfl⟩, ?_⟩
    · have hj' : j < ss.length := by omega
      have e : ss.getD j ByteArray.empty = ss[j] := by simp [List.getD, hj']
      show (ss.getD j ByteArray.empty).size ≤ maxLen
      rw [e]
      exact hsz _ (List.getElem_mem hj')
    · by_cases h0 : len = 0
      · subst h0
        exact .inl ⟨_, _, rfl, rfl⟩
      · have hc0 := cell_is (hcell 0 (by omega))
        obtain ⟨b, off, sp⟩ := a
        obtain rfl : sp = none := hc0.1
        exact .inr ⟨b, off, cap, rfl, hc0.2, fun j hj => by
          have hj1 := hcell j (by omega)
          rwa [show (⟨b, off, none⟩ : Addr).add j = ⟨b, off + j, none⟩ by simp [Addr.add]] at hj1⟩

set_option maxRecDepth 100000 in
theorem reads_lifted (os : Os) (started : os.Started) (H : Type) (enc : TypeId × Value → H) :
    ReturnsInTold none {} Tryf.checked os 3 .any Input.okWide ((OpenSpec.ofChange Rows.fnAudienceClaimReadsStringsExactlySpec).preRow enc Tryf.prog Tryf.f3 [] false []) (fun F => ((OpenSpec.ofChange Rows.fnAudienceClaimReadsStringsExactlySpec).at F).post enc Tryf.prog Tryf.f3 false true false false) (aloneAtReturn Tryf.prog) nothingAlways := by
  refine returnsInTold_of_row (C := Tryf.checked) (s := OpenSpec.ofChange Rows.fnAudienceClaimReadsStringsExactlySpec) (by kernel_rfl) Tryf.own started (by kernel_rfl) Tryf.func3
    (OpenSpec.witness_stopped (enc := enc) (C := Tryf.checked) false ⟨#[], #[.string ByteArray.empty, .slice none 0 0], []⟩ 8 (by kernel_rfl) (by kernel_rfl) (by kernel_rfl) (by kernel_rfl)) ?_
  intro F W base args ds gs before _ hF hval0 hW _ _ hsz _ _
  have hval : ∀ (j : Nat) t v, Tryf.f3.params[j]? = some t → args[j]? = some v → Value.okWide Tryf.prog W .any base t v := hval0
  have hW' := hW
  obtain ⟨p, q, hA0, hV, rfl, _, _⟩ := hW
  have hA : DataW.TrodAll enc Tryf.prog W 0 (fun _ => true) true Tryf.f3.params.toList args.toList ds p := hA0
  rw [Tryf.params3] at hA hval
  obtain ⟨v0, v1, d0, d1, p0, p1, rfl, rfl, rfl, h0, h1⟩ := trodAll_two hA
  obtain ⟨rfl, rfl⟩ := trodVars_none hV
  obtain ⟨s, rfl, rfl, rfl, ws⟩ := open_string Tryf.underlying9 (hval 0 9 v0 rfl rfl) h0
  obtain ⟨a0, len, cap, rfl⟩ := okWide_slice Tryf.underlying22 (hval 1 22 v1 rfl rfl)
  have h1k := h1
  obtain ⟨fuel, hf⟩ := h1
  clear hA0 hval0
  simp only [List.append_nil, List.nil_append] at hW'
  have hlt : ∀ x ∈ p1, x.block < W.heap.size := fun x hx => by simpa using hW'.lt x hx
  have hargs : ∀ (W' : World), Below W.heap.size W W' → DataW.Trod enc Tryf.prog W' 0 (fun b => decide (b < W.heap.size)) true 22 (.slice a0 len cap) d1 p1 :=
    fun W' hn => Below.trod Tryf.laidOut (by kernel_rfl) (of_decide_eq_true (by kernel_rfl)) h1k hn hlt
  obtain ⟨ss, hn, hss, hv, hr⟩ := open_row (by simpa [Value.cells] using hf)
  refine (reads_any s (.slice a0 len cap) len ss W hn ws hss hv hr).mono fun e W' ⟨he, hnx⟩ => ?_
  subst he
  refine ⟨_, rfl, _, _, _, [], _, [], hW', ?_, trodAll_mk2 (shut_string Tryf.underlying9 ws) (hargs _ hnx), rfl, hnx.frame _, fun h => by cases h⟩
  exact trodAll_mk1 (shut_bool Tryf.underlying4 _)

/-- ████ THE STATEMENT ████ -/
theorem reads_proved : Rows.FnAudienceClaimReadsStringsExactlyToldSaid :=
  Claim7.holds_of_told_any 3 Tryf.f3 "fmt.errorf" [] [] _ _ _ (by kernel_rfl) rfl rfl rfl Tryf.laidOut (by kernel_rfl) rfl ⟨rfl, rfl, rfl, rfl, rfl, rfl, rfl⟩ rfl rfl (by kernel_rfl) (by kernel_rfl) Tryf.func3 (by kernel_rfl)
    (of_decide_eq_true (by kernel_rfl)) (of_decide_eq_true (by kernel_rfl)) Tryf.stops.symm rfl Tryf.stopKnobs.symm (by kernel_rfl)
    (by kernel_rfl) (by kernel_rfl) (by kernel_rfl) (by kernel_rfl) (by kernel_rfl) (by kernel_rfl) (by kernel_rfl) (by kernel_rfl) (by kernel_rfl) rfl (by kernel_rfl) rfl rfl
    rfl rfl
    rfl (by kernel_rfl) (by kernel_rfl) (by kernel_rfl) (by decide) (by kernel_rfl)
    (OpenClaim.moreEntering_of (by kernel_rfl) (by kernel_rfl) (by kernel_rfl) (by kernel_rfl) (by kernel_rfl) (by kernel_rfl) (by kernel_rfl) (by kernel_rfl) (by kernel_rfl) (by kernel_rfl))
    ⟨_, WideRow.started_initial, Tryf.quiet _⟩
    (fun os started _ H enc _ => reads_lifted os started H enc)

end Go.Proofs.Qxb6614376aFmt
