import Derived.Test.Qxb6615481aRuns
namespace Go.Proofs.Qxb6615481a
open Go.RowKit

theorem drop_at (s : ByteArray) (j : Nat) (h : j < s.size) : s.data.toList.drop j = s[j] :: s.data.toList.drop (j + 1) := by
  rw [List.drop_eq_getElem_cons (by simpa using h)]; rfl

theorem drop_end (s : ByteArray) : s.data.toList.drop s.size = [] := List.drop_eq_nil_of_le (by simp)

theorem get_byte (n : ByteArray) (q : Nat) (h : q < n.size) : n.data.toList[q]? = some n[q] := by
  rw [List.getElem?_eq_getElem (by simpa using h)]; rfl

/-- One look at the text while a name is being read. -/
theorem look (s n : ByteArray) (j q : Nat) (R : List (List UInt8)) (hj : j ≤ s.size) (hq : q < n.size) (hn : ∀ c ∈ n.data.toList, c ≠ 47) (h : cutAt (s.data.toList.drop j) (n.data.toList.take q) = n.data.toList :: R) :
    ∃ hlt : j < s.size, (s[j] = 47 ∧ cutAt (s.data.toList.drop (j + 1)) (n.data.toList.take q) = n.data.toList :: R) ∨ (s[j] ≠ 47 ∧ s[j] = n[q] ∧ cutAt (s.data.toList.drop (j + 1)) (n.data.toList.take (q + 1)) = n.data.toList :: R) := by
  have hql : q < n.data.toList.length := by simpa using hq
  by_cases hlt : j < s.size
  · refine ⟨hlt, ?_⟩
    rw [drop_at s j hlt] at h
    by_cases h0 : q = 0
    · subst h0
      rw [List.take_zero] at h
      obtain ⟨c, r, e, h1⟩ := along_at _ _ _ h
      obtain ⟨rfl, rfl⟩ := List.cons.inj e
      rcases h1 with ⟨h1, h2⟩ | ⟨h1, h2, h3⟩
      · exact .inl ⟨h1, by rw [List.take_zero]; exact h2⟩
      · refine .inr ⟨h1, ?_, h3⟩
        rw [get_byte n 0 hq] at h2
        exact (Option.some.inj h2).symm
    · obtain ⟨r, e, h1⟩ := along_in _ _ q R hql (by omega) h
      obtain ⟨e1, rfl⟩ := List.cons.inj e
      have hb := get_byte n q hq
      rw [List.getElem?_eq_getElem hql] at hb
      have hb' := Option.some.inj hb
      refine .inr ⟨?_, by rw [e1, hb'], h1⟩
      rw [e1]
      exact hn _ (List.getElem_mem hql)
  · obtain rfl : j = s.size := by omega
    rw [drop_end] at h
    by_cases h0 : q = 0
    · subst h0
      simp [cutAt] at h
    · have hne : n.data.toList.take q ≠ [] := by
        intro e
        have := congrArg List.length e
        rw [List.length_take, Nat.min_eq_left (by omega)] at this
        exact h0 this
      rw [cutAt_nil _ hne] at h
      have := congrArg List.length (List.cons.inj h).1
      simp at this
      omega

/-- Behind the last name: slashes alone. -/
theorem rest_slash (s : ByteArray) (j : Nat) (h : cutAt (s.data.toList.drop j) [] = []) (hlt : j < s.size) : s[j] = 47 ∧ cutAt (s.data.toList.drop (j + 1)) [] = [] := by
  have hc := cutAt_none _ h
  rw [drop_at s j hlt] at h hc
  have h47 := hc s[j] (by simp)
  rw [h47, cutAt_slash_nil] at h
  exact ⟨h47, h⟩

theorem cutAt_len : ∀ (l cur : List UInt8), ∀ n ∈ cutAt l cur, n.length ≤ cur.length + l.length
  | [], cur, n, hn => by
    by_cases h0 : cur = []
    · simp [cutAt, h0] at hn
    · rw [cutAt_nil cur h0] at hn
      simp at hn
      simp [hn]
  | c :: r, cur, n, hn => by
    by_cases hc : c = 47
    · subst hc
      by_cases h0 : cur = []
      · subst h0
        rw [cutAt_slash_nil] at hn
        have := cutAt_len r [] n hn
        simp at this ⊢
        omega
      · rw [cutAt_slash r cur h0] at hn
        rcases List.mem_cons.1 hn with rfl | hn
        · omega
        · have := cutAt_len r [] n hn
          simp at this ⊢
          omega
    · rw [cutAt_byte c r cur hc] at hn
      have := cutAt_len r (cur ++ [c]) n hn
      simp at this ⊢
      omega

/-- The i-th name as a string: its bytes, that it is not empty and holds no slash. -/
theorem name_at (s : ByteArray) (i : Nat) (h : i < (nm s).length) : ∃ n : ByteArray, (nm s)[i]? = some n ∧ (names s.data.toList).drop i = n.data.toList :: (names s.data.toList).drop (i + 1) ∧ 0 < n.size ∧ n.size ≤ s.size ∧ ∀ c ∈ n.data.toList, c ≠ 47 := by
  have hl : i < (names s.data.toList).length := by simpa [nm] using h
  refine ⟨mkStr (names s.data.toList)[i], by simp [nm, hl], ?_, ?_, ?_, ?_⟩
  · rw [List.drop_eq_getElem_cons hl]; rfl
  · have hm := (cutAt_mem s.data.toList [] (by simp) _ (List.getElem_mem hl)).1
    show 0 < (names s.data.toList)[i].toArray.size
    have : (names s.data.toList)[i].length ≠ 0 := fun e => hm (List.eq_nil_of_length_eq_zero e)
    simp
    omega
  · have hm := cutAt_len s.data.toList [] _ (List.getElem_mem hl)
    show (names s.data.toList)[i].toArray.size ≤ s.size
    simp at hm ⊢
    exact hm
  · exact (cutAt_mem s.data.toList [] (by simp) _ (List.getElem_mem hl)).2

set_option maxRecDepth 100000 in
set_option maxHeartbeats 1000000 in
theorem hold_any (s : ByteArray) (A m c : Nat) (w : World) (hs : s.size ≤ 1048576) (hm : (nm s).length = m) (hmB : m ≤ 1048576) (hrow : RowIn w A (nm s)) :
    Calls Try.prog 9 #[.slice (some ⟨A, 0, none⟩) m c, .string s] w fun e w' => e = .returned (.bool true) ∧ ∃ q, w' = w.drewN q := by
  have HM := hide hm
  have HR := hide hrow
  clear hm hrow
  go_enter Try.func9, Try.ntmps9
  go_wp2
  go_loopw [5, 6] (fun jv iv wr => ∃ i j nq : Nat, i ≤ m ∧ j ≤ s.size ∧ iv = .int .i64 i ∧ jv = .int .i64 j ∧ wr = w.drewN nq ∧ Hid (cutAt (s.data.toList.drop j) [] = (names s.data.toList).drop i)) (fun _ iv _ => m - (intOf iv).toNat)
  case atStart => exact ⟨0, 0, 0, Nat.zero_le _, Nat.zero_le _, rfl, rfl, rfl, hide rfl⟩
  case round =>
    obtain ⟨i, j, nq, hi, hj, rfl, rfl, rfl, HI⟩ := hrel
    by_cases hlt : i < m
    · obtain ⟨n, hn1, hn2, hn3, hn4, hn5⟩ := name_at s i (by rw [unhide HM]; exact hlt)
      have hcell := (unhide HR).2 i n hn1
      have e0 : ((n.size : Int) == 0) = false := by rw [beq_eq_false_iff_ne]; omega
      have HI2 := hide ((unhide HI).trans hn2)
      have HN5 := hide hn5
      clear hn1 hn2 HI hn5
      go_wp2
      go_loopw [5, 8] (fun jv qv wr => ∃ q j nq : Nat, q ≤ n.size ∧ j ≤ s.size ∧ qv = .int .i64 q ∧ jv = .int .i64 j ∧ wr = w.drewN nq ∧ Hid (cutAt (s.data.toList.drop j) (n.data.toList.take q) = n.data.toList :: (names s.data.toList).drop (i + 1))) (fun _ qv _ => n.size - (intOf qv).toNat)
      case atStart => exact ⟨0, j, nq, Nat.zero_le _, hj, rfl, rfl, rfl, by rw [List.take_zero]; exact HI2⟩
      case round =>
        obtain ⟨q, j1, nq1, hq, hj1, rfl, rfl, rfl, HQ⟩ := hrel
        clear HI2
        by_cases hltq : q < n.size
        · have hb47 : n[q] ≠ 47 := (unhide HN5) _ (List.mem_of_getElem? (get_byte n q hltq))
          have eb := is47 n[q]
          rw [show decide (n[q] = 47) = false by simp [hb47]] at eb
          clear hb47
          go_wp2
          go_loop [5] (fun jv => ∃ j2 : Nat, j2 ≤ s.size ∧ jv = .int .i64 j2 ∧ Hid (cutAt (s.data.toList.drop j2) (n.data.toList.take q) = n.data.toList :: (names s.data.toList).drop (i + 1))) (fun jv => s.size - (intOf jv).toNat)
          case atStart => exact ⟨j1, hj1, rfl, HQ⟩
          case round =>
            obtain ⟨j2, hj2, rfl, HJ⟩ := hrel
            obtain ⟨hltj, hcase⟩ := look s n j2 q _ hj2 hltq (unhide HN5) (unhide HJ)
            have ej := is47 s[j2]
            rcases hcase with ⟨h47, hnx⟩ | ⟨hn47, heq, hnx⟩
            · rw [show decide (s[j2] = 47) = true by simp [h47]] at ej
              have HX := hide hnx
              clear h47 hnx HJ HQ
              go_wp2
              go_round
              case rel => exact ⟨j2 + 1, by omega, by go_num, HX⟩
              case measure => simp [intOf]; omega
            · rw [show decide (s[j2] = 47) = false by simp [hn47]] at ej
              have HX := hide hnx
              have en : ((s[j2].toNat : Int) != (n[q].toNat : Int)) = false := by rw [heq]; simp
              have dj : decide ((s.size : Int) ≤ (j2 : Int)) = false := by simp; omega
              clear hn47 hnx HJ HQ heq
              go_wp2
              go_quiet (fail)
              go_wp2
              go_roundw
              case rel => exact ⟨q + 1, j2 + 1, _, by omega, by omega, by go_num, by go_num, rfl, HX⟩
              case measure => simp [intOf]; omega
        · obtain rfl : q = n.size := by omega
          have HE : Hid (cutAt (s.data.toList.drop j1) [] = (names s.data.toList).drop (i + 1)) := by
            have h0 := unhide HQ
            rw [List.take_of_length_le (by simp)] at h0
            refine along_end _ _ _ ?_ h0
            intro e
            have hl : n.data.toList.length = n.size := by simp
            rw [e, List.length_nil] at hl
            omega
          clear HQ
          go_wp2
          go_roundw
          case rel => exact ⟨i + 1, j1, _, by omega, hj1, by go_num, rfl, rfl, HE⟩
          case measure => simp [intOf]; omega
    · obtain rfl : i = m := by omega
      have HZ : Hid (cutAt (s.data.toList.drop j) [] = []) := by
        refine (unhide HI).trans (List.drop_eq_nil_of_le ?_)
        have := unhide HM
        simp [nm] at this
        omega
      clear HI
      go_wp2
      go_loop [5] (fun jv => ∃ j2 : Nat, j2 ≤ s.size ∧ jv = .int .i64 j2 ∧ Hid (cutAt (s.data.toList.drop j2) [] = [])) (fun jv => s.size - (intOf jv).toNat)
      case atStart => exact ⟨j, hj, rfl, HZ⟩
      case round =>
        obtain ⟨j2, hj2, rfl, HJ⟩ := hrel
        clear HZ
        by_cases hltj : j2 < s.size
        · obtain ⟨h47, hnx⟩ := rest_slash s j2 (unhide HJ) hltj
          have ej := is47 s[j2]
          rw [show decide (s[j2] = 47) = true by simp [h47]] at ej
          have en : ((s[j2].toNat : Int) != 47) = false := by simp [bne, ej]
          have HX := hide hnx
          clear h47 hnx HJ
          go_wp2
          go_round
          case rel => exact ⟨j2 + 1, by omega, by go_num, HX⟩
          case measure => simp [intOf]; omega
        · clear HJ
          go_wp2
          go_ret
          exact ⟨rfl, _, rfl⟩
end Go.Proofs.Qxb6615481a
