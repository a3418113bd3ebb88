import Derived.Test.Qxb6615481aCut
namespace Go.Proofs.Qxb6615481a
open Go.RowKit

theorem glued_zero (s : ByteArray) : glued (s.data.toList.take 0) (s.data.toList.drop 0) = false := by simp [glued]
theorem glued_end (s : ByteArray) : glued (s.data.toList.take s.size) (s.data.toList.drop s.size) = false := by
  rw [drop_end]
  unfold glued
  simp
theorem glued_mid (s : ByteArray) (j : Nat) (h : j + 1 < s.size) : glued (s.data.toList.take (j + 1)) (s.data.toList.drop (j + 1)) = (decide (s[j] ≠ 47) && decide (s[j + 1] ≠ 47)) := by
  unfold glued
  rw [last_take s j (by omega), drop_at s (j + 1) h]
  rfl

theorem glued_mid' (s : ByteArray) (k : Nat) (h0 : 0 < k) (h : k < s.size) : glued (s.data.toList.take k) (s.data.toList.drop k) = (decide (s[k - 1] ≠ 47) && decide (s[k] ≠ 47)) := by
  obtain ⟨j, rfl⟩ : ∃ j, k = j + 1 := ⟨k - 1, by omega⟩
  exact glued_mid s j h

/-- The four ways in which the cut falls beside a slash or at an end; and the fifth. -/
theorem ways (s : ByteArray) (k : Nat) (hk : k ≤ s.size) :
    ((k ≤ 0 ∨ (0 < k ∧ s.size ≤ k) ∨
      ∃ (_ : k - 1 < s.size) (_ : k < s.size), 0 < k ∧
        (((s[k - 1].toNat : Int) = 47 ∧ ((s[k - 1].toNat : Int) != 47) = false) ∨
         (¬ (s[k - 1].toNat : Int) = 47 ∧ ((s[k - 1].toNat : Int) != 47) = true ∧ (s[k].toNat : Int) = 47 ∧ ((s[k].toNat : Int) != 47) = false))) ∧ glued (s.data.toList.take k) (s.data.toList.drop k) = false) ∨
    (∃ (_ : k - 1 < s.size) (_ : k < s.size), 0 < k ∧ ¬ (s[k - 1].toNat : Int) = 47 ∧ ((s[k - 1].toNat : Int) != 47) = true ∧ ¬ (s[k].toNat : Int) = 47 ∧ ((s[k].toNat : Int) != 47) = true ∧ glued (s.data.toList.take k) (s.data.toList.drop k) = true) := by
  by_cases h0 : k = 0
  · subst h0
    exact .inl ⟨.inl (Nat.le_refl _), glued_zero s⟩
  by_cases h1 : k = s.size
  · refine .inl ⟨.inr (.inl ⟨by omega, by omega⟩), ?_⟩
    rw [h1]
    exact glued_end s
  have h2 : k < s.size := by omega
  have h3 : k - 1 < s.size := by omega
  have hg := glued_mid' s k (by omega) h2
  have n0 : ∀ c : UInt8, ((c.toNat : Int) = 47 ↔ c = 47) := fun c => by
    have := is47 c
    rw [Bool.eq_iff_iff] at this
    simpa using this
  have n1 : ∀ c : UInt8, ((c.toNat : Int) != 47) = !decide (c = 47) := fun c => by rw [bne, is47]
  by_cases a : s[k - 1] = 47
  · exact .inl ⟨.inr (.inr ⟨h3, h2, by omega, .inl ⟨(n0 _).2 a, by rw [n1]; simp [a]⟩⟩), by rw [hg]; simp [a]⟩
  · by_cases b : s[k] = 47
    · exact .inl ⟨.inr (.inr ⟨h3, h2, by omega, .inr ⟨fun h => a ((n0 _).1 h), by rw [n1]; simp [a], (n0 _).2 b, by rw [n1]; simp [b]⟩⟩), by rw [hg]; simp [b]⟩
    · exact .inr ⟨h3, h2, by omega, fun h => a ((n0 _).1 h), by rw [n1]; simp [a], fun h => b ((n0 _).1 h), by rw [n1]; simp [b], by rw [hg]; simp [a, b]⟩

theorem RowIn.drewN {w : World} {B : Nat} {l : List ByteArray} (h : RowIn w B l) (q : Nat) : RowIn (w.drewN q) B l := h

theorem take_next (l : List ByteArray) (i : Nat) (h : i < l.length) : l.take (i + 1) = l.take i ++ [l[i]] := List.take_succ_eq_append_getElem h

set_option maxRecDepth 100000 in
set_option maxHeartbeats 1000000 in
/-- A text that is too long, or a cut outside it: the law says true at once. -/
theorem cut_out (s : ByteArray) (k : Int) (w : World) (hs : s.size ≤ maxLen) (h : 1048576 < s.size ∨ k < 0 ∨ (s.size : Int) < k) :
    Calls Try.prog 4 #[.string s, .int .i64 k] w fun e w' => e = .returned (.bool true) ∧ Below w.heap.size w w' := by
  have h8 := hide (bytes8 s k w hs)
  unfold maxLen at hs
  by_cases h1 : (1048576 : Int) < (s.size : Int)
  · clear h
    go_enter Try.func4, Try.ntmps4
    go_wp2_with (go_at_call 8; refine (unhide h8).mono ?_; rintro e w' ⟨⟨r, rfl⟩, rfl⟩)
    all_goals (go_ret; exact ⟨rfl, Below.refl _ _⟩)
  have d1 : decide ((1048576 : Int) < (s.size : Int)) = false := by simp; omega
  by_cases h2 : k < 0
  · clear h
    go_enter Try.func4, Try.ntmps4
    go_wp2_with (go_at_call 8; refine (unhide h8).mono ?_; rintro e w' ⟨⟨r, rfl⟩, rfl⟩)
    all_goals (go_ret; exact ⟨rfl, Below.refl _ _⟩)
  have h3 : (s.size : Int) < k := by omega
  have d2 : decide (k < 0) = false := by simp; omega
  clear h
  go_enter Try.func4, Try.ntmps4
  go_wp2_with (go_at_call 8; refine (unhide h8).mono ?_; rintro e w' ⟨⟨r, rfl⟩, rfl⟩)
  all_goals (go_ret; exact ⟨rfl, Below.refl _ _⟩)

theorem nm_size (s : ByteArray) (x : ByteArray) (h : x ∈ nm s) : x.size ≤ s.size := by
  unfold nm at h
  obtain ⟨l, hl, rfl⟩ := List.mem_map.1 h
  have := cutAt_len s.data.toList [] l hl
  show l.toArray.size ≤ _
  simp at this ⊢
  exact this

set_option maxRecDepth 100000 in
set_option maxHeartbeats 1000000 in
theorem cut_in (s : ByteArray) (k : Nat) (w : World) (hs : s.size ≤ 1048576) (hk : k ≤ s.size) :
    Calls Try.prog 4 #[.string s, .int .i64 (k : Int)] w fun e w' => e = .returned (.bool true) ∧ Below w.heap.size w w' := by
  have h8 := hide (bytes8 s k w (by unfold maxLen; omega))
  have d1 : decide ((1048576 : Int) < (s.size : Int)) = false := by simp; omega
  have d3 : decide ((s.size : Int) < (k : Int)) = false := by simp; omega
  have hsz0 : (s.extract 0 k).size ≤ 4294967296 := by rw [ByteArray.size_extract]; omega
  have hsz1 : (s.extract k s.size).size ≤ 4294967296 := by rw [ByteArray.size_extract]; omega
  have hl0 : (nm (s.extract 0 k)).length ≤ 1048576 := by have := nm_le (s.extract 0 k); rw [ByteArray.size_extract] at this; omega
  have hl1 : (nm (s.extract k s.size)).length ≤ 1048576 := by have := nm_le (s.extract k s.size); rw [ByteArray.size_extract] at this; omega
  have hl2 : (nm s).length ≤ 1048576 := by have := nm_le s; omega
  generalize hF : nm s = F at *
  generalize hL : nm (s.extract 0 k) = L at *
  generalize hR : nm (s.extract k s.size) = R at *
  generalize hm : F.length = m at *
  generalize hlL : L.length = lL at *
  generalize hlR : R.length = lR at *
  have C5 := hide (fun w => split_len s F m w (by omega) hF hm)
  have C6 := hide (fun w => split_len (s.extract 0 k) L lL w hsz0 hL hlL)
  have C7 := hide (fun w => split_len (s.extract k s.size) R lR w hsz1 hR hlR)
  have HF := hide hF
  have HL := hide hL
  have HR := hide hR
  have Hm := hide hm
  have HlL := hide hlL
  have HlR := hide hlR
  clear hF hL hR hm hlL hlR hsz0 hsz1
  go_enter Try.func4, Try.ntmps4
  go_wp2_with (go_at_call 8; refine (unhide h8).mono ?_; rintro e w' ⟨⟨r, rfl⟩, rfl⟩)
  · go_ret
    exact ⟨rfl, Below.refl _ _⟩
  refine (unhide C5 _).mono ?_
  rintro e w5 ⟨A5, rfl, r5, b5⟩
  have R5 := hide r5
  have B5 := hide b5
  clear r5 b5 C5 h8
  go_wp2_with fail
  refine (unhide C6 _).mono ?_
  rintro e w6 ⟨A6, rfl, r6, b6⟩
  have R6 := hide r6
  have R5' := hide ((unhide R5).below b6)
  have B6 := hide ((unhide B5).trans (b6.mono (unhide B5).size))
  clear r6 b6 C6 R5 B5
  go_wp2_with fail
  refine (unhide C7 _).mono ?_
  rintro e w7 ⟨A7, rfl, r7, b7⟩
  have S7 := hide r7
  have S6 := hide ((unhide R6).below b7)
  have S5 := hide ((unhide R5').below b7)
  have B7 := hide ((unhide B6).trans (b7.mono (unhide B6).size))
  clear r7 b7 C7 R5' R6 B6
  have d2 : decide ((k : Int) < 0) = false := by simp
  rcases ways s k hk with ⟨hap, hgl⟩ | ⟨x1, x2, x0, p1, e1, p2, e2, hgl⟩
  · have hFLR : F = L ++ R := by rw [← unhide HF, ← unhide HL, ← unhide HR]; exact nm_apart s k hgl
    have HG := hide hFLR
    clear hFLR hgl
    obtain ⟨w8, hmk, hown8, hgr8⟩ := run_make_own (P := Try.prog) w7 w7.heap.size 24 9 Try.t9 (.string ⟨#[]⟩) 1 Try.underlying24 (by kernel_rfl) rfl rfl .i64 .i64 (lL + lR) (by show 16 * (lL + lR) ≤ _; omega) (by unfold maxLen; omega) (Nat.le_refl _)
    rw [show ((lL + lR : Nat) : Int) = (lL : Int) + (lR : Int) from by omega] at hmk
    have O8 : Hid (OwnS w7 w7.heap.size w8 w7.heap.size 0 (lL + lR) []) := ⟨rfl, hown8, (Below.refl _ _).grown hgr8 (Nat.le_refl _) (fun k h => by cases h), hgr8.size⟩
    clear hown8 hgr8
    rcases hap with x0 | ⟨x0, x1⟩ | ⟨x1, x2, x0, ⟨p1, e1⟩ | ⟨p1, e1, p2, e2⟩⟩
    all_goals (
      go_wp2
      go_loopw [9, 12] (fun v iv wr => ∃ i g cp : Nat, i ≤ lL ∧ iv = .int .i64 i ∧ v = .slice (some ⟨g, 0, none⟩) i cp ∧ Hid (OwnS w7 w7.heap.size wr g i cp (L.take i))) (fun _ iv _ => lL - (intOf iv).toNat)
      case atStart => exact ⟨0, _, _, Nat.zero_le _, rfl, rfl, by rw [List.take_zero]; exact O8⟩
      case round =>
        obtain ⟨i, g, cp, hi, rfl, rfl, HO⟩ := hrel
        clear hmk O8
        by_cases hlt : i < lL
        · have hil : i < L.length := by rw [unhide HlL]; exact hlt
          have hcell : wr.cell? ⟨A6, i, none⟩ = some (.string L[i]) := ((unhide S6).below (unhide HO).2.2.1).2 i _ (List.getElem?_eq_getElem hil)
          obtain ⟨g', c', w9, hr, ho⟩ := push_s L[i] w7 wr w7.heap.size g i cp _ (by omega) (unhide HO)
          rw [← take_next L i hil] at ho
          have H := hide hr
          have HO' := hide ho
          generalize L[i] = x at hcell H
          clear hr ho HO hil
          go_wp2_with (at_builtin; refine wpList_append_run rfl _ _ _ rfl _ _ rfl rfl _ _ (unhide H) ?_; clear H)
          go_roundw
          case rel => exact ⟨i + 1, g', c', by omega, by go_num, rfl, HO'⟩
          case measure => simp [intOf]; omega
        · obtain rfl : i = lL := by omega
          have HO2 : Hid (OwnS w7 w7.heap.size wr g i cp (L ++ R.take 0)) := by
            have h0 := unhide HO
            rw [List.take_of_length_le (by rw [unhide HlL]; exact Nat.le_refl _)] at h0
            rw [List.take_zero, List.append_nil]
            exact h0
          clear HO
          go_wp2
          go_loopw [9, 13] (fun v jv wr => ∃ j g cp : Nat, j ≤ lR ∧ jv = .int .i64 j ∧ v = .slice (some ⟨g, 0, none⟩) (i + j) cp ∧ Hid (OwnS w7 w7.heap.size wr g (i + j) cp (L ++ R.take j))) (fun _ jv _ => lR - (intOf jv).toNat)
          case atStart => exact ⟨0, _, _, Nat.zero_le _, rfl, rfl, HO2⟩
          case round =>
            obtain ⟨j, g1, cp1, hj, rfl, rfl, HO⟩ := hrel
            clear HO2
            by_cases hltj : j < lR
            · have hjl : j < R.length := by rw [unhide HlR]; exact hltj
              have hcell : wr.cell? ⟨A7, j, none⟩ = some (.string R[j]) := ((unhide S7).below (unhide HO).2.2.1).2 j _ (List.getElem?_eq_getElem hjl)
              obtain ⟨g', c', w9, hr, ho⟩ := push_s R[j] w7 wr w7.heap.size g1 (i + j) cp1 _ (by omega) (unhide HO)
              rw [List.append_assoc, ← take_next R j hjl] at ho
              have H := hide hr
              have HO' := hide ho
              generalize R[j] = x at hcell H
              clear hr ho HO hjl
              go_wp2_with (at_builtin; refine wpList_append_run rfl _ _ _ rfl _ _ rfl rfl _ _ (unhide H) ?_; clear H)
              go_roundw
              case rel => exact ⟨j + 1, g', c', by omega, by go_num, rfl, HO'⟩
              case measure => simp [intOf]; omega
            · obtain rfl : j = lR := by omega
              have HO3 : Hid (OwnS w7 w7.heap.size wr g1 (i + j) cp1 F) := by
                have h0 := unhide HO
                rw [List.take_of_length_le (by rw [unhide HlR]; exact Nat.le_refl _)] at h0
                rw [unhide HG]
                exact h0
              obtain rfl : m = i + j := by rw [← unhide Hm, (unhide HO3).1]
              have RA := hide ((unhide S5).below (unhide HO3).2.2.1)
              have RG := hide (unhide HO3).row
              have BF := hide ((unhide B7).trans ((unhide HO3).2.2.1.mono (unhide B7).size))
              clear HO HO3
              go_wp2_with fail
              refine (same_any A5 g1 (i + j) (i + j) cp1 F _ (unhide Hm) (by omega) (unhide RA) (unhide RG)).mono ?_
              rintro e w10 ⟨rfl, q, rfl⟩
              go_wp2_with fail
              refine (hold_any s A5 (i + j) (i + j) _ hs (by rw [unhide HF]; exact unhide Hm) (by omega) (by rw [unhide HF]; exact (unhide RA).drewN q)).mono ?_
              rintro e w11 ⟨rfl, q2, rfl⟩
              go_wp2
              go_ret
              exact ⟨rfl, below_drewN' (unhide BF) _⟩)
  · obtain ⟨E, x, y, T, hE, hT, hFG⟩ := nm_glued s k hgl
    rw [unhide HL] at hE
    rw [unhide HR] at hT
    rw [unhide HF] at hFG
    have hxs : x.size ≤ 1048576 := by
      have h1 := nm_size (s.extract 0 k) x (by rw [unhide HL, hE]; simp)
      rw [ByteArray.size_extract] at h1
      omega
    have hys : y.size ≤ 1048576 := by
      have h1 := nm_size (s.extract k s.size) y (by rw [unhide HR, hT]; simp)
      rw [ByteArray.size_extract] at h1
      omega
    have hlE : E.length + 1 = lL := by rw [← unhide HlL, hE]; simp
    have hlT : T.length + 1 = lR := by rw [← unhide HlR, hT]; simp
    have HE := hide hE
    have HT := hide hT
    have HG := hide hFG
    generalize hle : E.length = lE at *
    generalize hlt : T.length = lT at *
    have Hle := hide hle
    have Hlt := hide hlt
    have l1 : 1 ≤ lL := by omega
    have l2 : 1 ≤ lR := by omega
    have hEL : lE ≤ 1048576 := by omega
    have hTL : lT ≤ 1048576 := by omega
    have HlE := hide hlE
    have HlT := hide hlT
    clear hE hT hFG hle hlt hlE hlT hgl
    obtain ⟨w8, hmk, hown8, hgr8⟩ := run_make_own (P := Try.prog) w7 w7.heap.size 24 9 Try.t9 (.string ⟨#[]⟩) 1 Try.underlying24 (by kernel_rfl) rfl rfl .i64 .i64 (lL + lR - 1) (by show 16 * (lL + lR - 1) ≤ _; omega) (by unfold maxLen; omega) (Nat.le_refl _)
    rw [show ((lL + lR - 1 : Nat) : Int) = (lL : Int) + (lR : Int) - 1 from by omega] at hmk
    have O8 : Hid (OwnS w7 w7.heap.size w8 w7.heap.size 0 (lL + lR - 1) []) := ⟨rfl, hown8, (Below.refl _ _).grown hgr8 (Nat.le_refl _) (fun k h => by cases h), hgr8.size⟩
    clear hown8 hgr8
    have f1 : ((lL : Int) == 0) = false := by rw [beq_eq_false_iff_ne]; omega
    have f2 : ((lR : Int) == 0) = false := by rw [beq_eq_false_iff_ne]; omega
    go_wp2
    go_loopw [9, 10] (fun v iv wr => ∃ i g cp : Nat, i + 1 ≤ lL ∧ iv = .int .i64 i ∧ v = .slice (some ⟨g, 0, none⟩) i cp ∧ Hid (OwnS w7 w7.heap.size wr g i cp (L.take i))) (fun _ iv _ => lL - (intOf iv).toNat)
    case atStart => exact ⟨0, _, _, by omega, rfl, rfl, by rw [List.take_zero]; exact O8⟩
    case round =>
      obtain ⟨i, g, cp, hi, rfl, rfl, HO⟩ := hrel
      clear hmk O8
      by_cases hlt : i + 1 < lL
      · have hil : i < L.length := by rw [unhide HlL]; omega
        have hcell : wr.cell? ⟨A6, i, none⟩ = some (.string L[i]) := ((unhide S6).below (unhide HO).2.2.1).2 i _ (List.getElem?_eq_getElem hil)
        obtain ⟨g', c', w9, hr, ho⟩ := push_s L[i] w7 wr w7.heap.size g i cp _ (by omega) (unhide HO)
        rw [← take_next L i hil] at ho
        have H := hide hr
        have HO' := hide ho
        generalize L[i] = z at hcell H
        clear hr ho HO hil
        go_wp2_with (at_builtin; refine wpList_append_run rfl _ _ _ rfl _ _ rfl rfl _ _ (unhide H) ?_; clear H)
        go_roundw
        case rel => exact ⟨i + 1, g', c', by omega, by go_num, rfl, HO'⟩
        case measure => simp [intOf]; omega
      · obtain rfl : lE = i := by have := unhide HlE; omega
        have hcx : wr.cell? ⟨A6, lE, none⟩ = some (.string x) := ((unhide S6).below (unhide HO).2.2.1).2 lE x (by
          rw [unhide HE, ← unhide Hle]
          simp)
        have hcy : wr.cell? ⟨A7, 0, none⟩ = some (.string y) := ((unhide S7).below (unhide HO).2.2.1).2 0 y (by rw [unhide HT]; rfl)
        have HO1 : Hid (OwnS w7 w7.heap.size wr g lE cp E) := by
          have h0 := unhide HO
          rw [unhide HE, List.take_append_of_le_length (by rw [unhide Hle]; omega), List.take_of_length_le (by rw [unhide Hle]; omega)] at h0
          exact h0
        have hw : IntKind.i64.wrap ((lL : Int) - 1) = (lE : Int) := by
          rw [IntKind.wrap_i64]
          have := unhide HlE
          omega
        have hlE2 : (lE : Int) < (lL : Int) := by omega
        have hlR0 : 0 < lR := by omega
        have hcat : ¬ (9223372036854775807 < x.size + y.size) := by omega
        obtain ⟨g2, c2, w9, hr, ho⟩ := push_s (x ++ y) w7 wr.drew w7.heap.size g lE cp _ (by omega) (unhide HO1).drew
        have H := hide hr
        have HO2 := hide ho
        clear hr ho HO HO1
        go_wp2
        go_region_law (refine step_append_run rfl _ _ _ rfl _ _ rfl rfl _ _ (unhide H) ?_)
        all_goals (
          have HO3 : Hid (OwnS w7 w7.heap.size w9 g2 (lE + 1 + 0) c2 (E ++ (x ++ y) :: T.take 0)) := by
            rw [List.take_zero]
            exact unhide HO2
          clear HO2
          go_wp2
          go_loopw [9, 11] (fun v jv wr => ∃ j g cp : Nat, j ≤ lT ∧ jv = .int .i64 ((j : Int) + 1) ∧ v = .slice (some ⟨g, 0, none⟩) (lE + 1 + j) cp ∧ Hid (OwnS w7 w7.heap.size wr g (lE + 1 + j) cp (E ++ (x ++ y) :: T.take j))) (fun _ jv _ => lR - (intOf jv).toNat)
          case atStart => exact ⟨0, _, _, Nat.zero_le _, by go_num, rfl, HO3⟩
          case round =>
            obtain ⟨j, g1, cp1, hj, rfl, rfl, HO⟩ := hrel
            clear HO3
            by_cases hltj : j < lT
            · have hjl : j < T.length := by rw [unhide Hlt]; exact hltj
              have hj1 : (j : Int) + 1 < (lR : Int) := by have := unhide HlT; omega
              have hcell : wr.cell? ⟨A7, j + 1, none⟩ = some (.string T[j]) := ((unhide S7).below (unhide HO).2.2.1).2 (j + 1) _ (by rw [unhide HT, List.getElem?_cons_succ, List.getElem?_eq_getElem hjl])
              obtain ⟨g', c', w10, hr, ho⟩ := push_s T[j] w7 wr w7.heap.size g1 (lE + 1 + j) cp1 _ (by omega) (unhide HO)
              rw [List.append_assoc, List.cons_append, ← take_next T j hjl] at ho
              have H := hide hr
              have HO' := hide ho
              generalize T[j] = z at hcell H
              clear hr ho HO hjl
              go_wp2_with (at_builtin; refine wpList_append_run rfl _ _ _ rfl _ _ rfl rfl _ _ (unhide H) ?_; clear H)
              go_roundw
              case rel => exact ⟨j + 1, g', c', by omega, by go_num, rfl, HO'⟩
              case measure => simp [intOf]; omega
            · obtain rfl : j = lT := by omega
              have hj1 : ¬ (j : Int) + 1 < (lR : Int) := by have := unhide HlT; omega
              have HO4 : Hid (OwnS w7 w7.heap.size wr g1 (lE + 1 + j) cp1 F) := by
                have h0 := unhide HO
                rw [List.take_of_length_le (by rw [unhide Hlt]; exact Nat.le_refl _)] at h0
                rw [unhide HG]
                exact h0
              obtain rfl : m = lE + 1 + j := by rw [← unhide Hm, (unhide HO4).1]
              have RA := hide ((unhide S5).below (unhide HO4).2.2.1)
              have RG := hide (unhide HO4).row
              have BF := hide ((unhide B7).trans ((unhide HO4).2.2.1.mono (unhide B7).size))
              clear HO HO4
              go_wp2_with fail
              refine (same_any A5 g1 (lE + 1 + j) (lE + 1 + j) cp1 F _ (unhide Hm) (by omega) (unhide RA) (unhide RG)).mono ?_
              rintro e w10 ⟨rfl, q, rfl⟩
              go_wp2_with fail
              refine (hold_any s A5 (lE + 1 + j) (lE + 1 + j) _ hs (by rw [unhide HF]; exact unhide Hm) (by omega) (by rw [unhide HF]; exact (unhide RA).drewN q)).mono ?_
              rintro e w11 ⟨rfl, q2, rfl⟩
              go_wp2
              go_ret
              exact ⟨rfl, below_drewN' (unhide BF) _⟩)
end Go.Proofs.Qxb6615481a

namespace Go.Proofs.Qxb6615481a
open Go.RowKit
theorem cut_walk (s : ByteArray) (k : Int) (w : World) (hs : s.size ≤ maxLen) :
    Calls Try.prog 4 #[.string s, .int .i64 k] w fun e w' => e = .returned (.bool true) ∧ Below w.heap.size w w' := by
  by_cases h : 1048576 < s.size ∨ k < 0 ∨ (s.size : Int) < k
  · exact cut_out s k w hs h
  · obtain ⟨n, rfl⟩ := Int.eq_ofNat_of_zero_le (show 0 ≤ k by omega)
    exact cut_in s n w (by omega) (by omega)
end Go.Proofs.Qxb6615481a
