import Derived.Test.Qxb6615481aSplit
import Derived.Deep.AppendLies
namespace Go.Proofs.Qxb6615481a
open Go.RowKit

/-- An append whose run is known, as a step of the walk. -/
theorem wpList_append_run {P : Program} {w : World} {ops : Array Oper} {rest : List Oper} {o : Oper} {a : Act} {Q : Exit → Act → World → Prop} (hgd : o.guard = none) (s x : Operand) (t : TypeId)
    (ho : o.op = .call { callee := .builtin .append, args := #[s, x], argTypes := #[t, t] }) (v vx : Value) (hs : a.eval s = v) (hx : a.eval x = vx) (v' : Value) (w' : World)
    (hr : ∀ ty, (Builtin.append_ #[t, t] ty #[v, vx]).run P w = .ok v' w') (h : wpList P ops Q rest (a.put o.dst v') w') : wpList P ops Q (o :: rest) a w := by
  refine wpList_plain hgd fun K hK => ?_
  unfold Oper.wp execOp
  simp only [ho, resolve, invoke, builtin, Sem.run_bind, Sem.run_pure, Result.andThen_ok, List.map_toArray, List.map_cons, List.map_nil, hs, hx, hr]
  exact hK _ _ h

/-- Bytes as cells. -/
def bv (l : List UInt8) : List Value := l.map fun c => .int .u8 (c.toNat : Int)
theorem bv_snoc (l : List UInt8) (c : UInt8) : bv l ++ [.int .u8 (c.toNat : Int)] = bv (l ++ [c]) := by simp [bv]
theorem bv_length (l : List UInt8) : (bv l).length = l.length := by simp [bv]

/-- The call's own bytes: a slice at block g, n long, that holds l. -/
def OwnB (w0 : World) (B : Nat) (w : World) (g n cap : Nat) (l : List UInt8) : Prop :=
  n = l.length ∧ w.ownsRow B 5 1 (.slice (some ⟨g, 0, none⟩) n cap) n (bv l) ∧ Below B w0 w ∧ B ≤ w.heap.size

/-- One byte appended, its block just laid. -/
theorem push1 (c : UInt8) (w0 wr : World) (B g n cap : Nat) (l : List UInt8) (hm : n ≤ 2097152) (h : OwnB w0 B wr g n cap l) :
    ∃ g' cap' w', (∀ ty, (Builtin.append_ #[23, 23] ty #[.slice (some ⟨g, 0, none⟩) n cap, .slice (some ⟨wr.heap.size, 0, none⟩) 1 1]).run Try.prog (wr.alloc (.cells #[.int .u8 (c.toNat : Int)] 5)) = .ok (.slice (some ⟨g', 0, none⟩) (n + 1) cap') w') ∧ OwnB w0 B w' g' (n + 1) cap' (l ++ [c]) := by
  obtain ⟨hn, hown, hbw, hB⟩ := h
  obtain ⟨g', cap', w', hrun, ho, hgr, _, _⟩ := run_append_lies (P := Try.prog) (wr.alloc (.cells #[.int .u8 (c.toNat : Int)] 5)) 23 23 B 5 Try.t5 (.int .u8 0) 1 1 Try.underlying23 (by kernel_rfl) rfl rfl rfl rfl (by omega)
    (.slice (some ⟨g, 0, none⟩) n cap) n (bv l) (hown.alloc _) ⟨wr.heap.size, 0, none⟩ 1 1 [.int .u8 (c.toNat : Int)] rfl (cell_one_new _ _ _) (by simp; rfl) (by omega) (by unfold maxLen; omega) (by omega) (by simp; omega) _ rfl
  rw [bv_snoc] at ho
  refine ⟨g', cap', w', fun ty => hrun, by simp [hn], ho, ?_, ?_⟩
  · exact (hbw.alloc hB _).grown hgr (by simp; omega) (fun k hk => by have := hown.lt k (by simpa using hk); exact this.1)
  · have := hgr.size; simp at this; omega

theorem take_snoc (s : ByteArray) (k : Nat) (h : k < s.size) : s.data.toList.take (k + 1) = s.data.toList.take k ++ [s[k]] := by
  rw [List.take_succ_eq_append_getElem (by simpa using h)]; rfl

theorem below_drewN' {B : Nat} {a w : World} (h : Below B a w) (n : Nat) : Below B a (w.drewN n) := ⟨h.os, h.tape, h.output, h.size, h.block⟩

theorem split_len (s : ByteArray) (l : List ByteArray) (m : Nat) (w : World) (hs : s.size ≤ 4294967296) (hl : nm s = l) (hm : l.length = m) :
    Calls Try.prog 6 #[.string s] w fun e w' => ∃ A, e = .returned (.slice (some ⟨A, 0, none⟩) m m) ∧ RowIn w' A l ∧ Below w.heap.size w w' := by
  subst hl
  subst hm
  exact split_any s w hs

theorem nm_dbl (s : ByteArray) : nm (mkStr (47 :: dbl s.data.toList ++ [47])) = nm s := by
  unfold nm
  rw [show (mkStr (47 :: dbl s.data.toList ++ [47])).data.toList = 47 :: (dbl s.data.toList ++ [47]) from rfl, names_dbl]

theorem nm_length (s : ByteArray) : (nm s).length = begins s.data.toList true := by
  unfold nm
  rw [List.length_map, names_length]

theorem last_take (s : ByteArray) (j : Nat) (h : j < s.size) : (s.data.toList.take (j + 1)).getLast? = some s[j] := by
  rw [take_snoc s j h]
  simp

/-- The count behind one more byte. -/
theorem count_slash (s : ByteArray) (k : Nat) (h : k < s.size) (hc : s[k] = 47) : begins (s.data.toList.take (k + 1)) true = begins (s.data.toList.take k) true := by
  rw [take_snoc s k h, begins_snoc]
  simp [hc]
theorem count_first (s : ByteArray) (h : 0 < s.size) (hc : s[0] ≠ 47) : begins (s.data.toList.take (0 + 1)) true = begins (s.data.toList.take 0) true + 1 := by
  rw [take_snoc s 0 h, begins_snoc]
  simp [hc]
theorem count_new (s : ByteArray) (j : Nat) (h : j + 1 < s.size) (hc : s[j + 1] ≠ 47) (hp : s[j] = 47) : begins (s.data.toList.take (j + 1 + 1)) true = begins (s.data.toList.take (j + 1)) true + 1 := by
  rw [take_snoc s (j + 1) h, begins_snoc, last_take s j (by omega)]
  simp [hc, hp]
theorem count_on (s : ByteArray) (j : Nat) (h : j + 1 < s.size) (hp : s[j] ≠ 47) : begins (s.data.toList.take (j + 1 + 1)) true = begins (s.data.toList.take (j + 1)) true := by
  rw [take_snoc s (j + 1) h, begins_snoc, last_take s j (by omega)]
  simp [hp]

theorem begins_le : ∀ (l : List UInt8) (b : Bool), begins l b ≤ l.length
  | [], _ => by simp [begins]
  | c :: r, b => by
    have h1 := begins_le r true
    have h2 := begins_le r false
    by_cases hc : c = 47
    · simp [begins, hc]; omega
    · cases b <;> simp [begins, hc] <;> omega

/-- 'string(t)' of the call's own bytes, in a later world. -/
theorem conv_own (w0 w w' : World) (B g n cap : Nat) (l : List UInt8) (h : OwnB w0 B w g n cap l) (hb : Below w.heap.size w w') : (convert 23 9 (.slice (some ⟨g, 0, none⟩) n cap)).run Try.prog w' = .ok (.string (mkStr l)) w' := by
  obtain ⟨rfl, hown, _, _⟩ := h
  have hg := (hown.lt g rfl).2
  exact run_convert_bytes_back w' 23 9 5 ⟨g, 0, none⟩ cap l Try.underlying23 Try.underlying5 Try.underlying9 (fun j hj => by
    rw [show (⟨g, 0, none⟩ : Addr).add j = ⟨g, j, none⟩ by simp [Addr.add]; omega]
    rw [hb.cell (p := ⟨g, j, none⟩) hg, hown.cellAt j (by omega)]
    simp [bv, hj])

/-- The test on a byte, as the walk has it. -/
theorem is47 (c : UInt8) : ((c.toNat : Int) == 47) = decide (c = 47) := by
  by_cases h : c = 47
  · subst h; rfl
  · rw [show decide (c = 47) = false by simp [h], beq_eq_false_iff_ne]
    intro e
    exact h (UInt8.toNat_inj.1 (by simpa using (by omega : c.toNat = 47)))

set_option maxRecDepth 100000 in
set_option maxHeartbeats 1000000 in
theorem runs_walk (s : ByteArray) (w : World) (hs : s.size ≤ maxLen) :
    Calls Try.prog 3 #[.string s] w fun e w' => e = .returned (.bool true) ∧ Below w.heap.size w w' := by
  have h5 := hide (bytes5 s w hs)
  unfold maxLen at hs
  by_cases h1 : (524288 : Int) < (s.size : Int)
  · go_enter Try.func3, Try.ntmps3
    go_wp2_with (go_at_call 5; refine (unhide h5).mono ?_; rintro e w' ⟨⟨r, rfl⟩, rfl⟩)
    all_goals (go_ret; exact ⟨rfl, Below.refl _ _⟩)
  have d1 : decide ((524288 : Int) < (s.size : Int)) = false := by simp; omega
  obtain ⟨w1, hmk, hown, hgr⟩ := run_make_own (P := Try.prog) w w.heap.size 23 5 Try.t5 (.int .u8 0) 1 Try.underlying23 (by kernel_rfl) rfl rfl .i64 .i64 (2 * s.size + 2) (by show 1 * (2 * s.size + 2) ≤ _; omega) (by unfold maxLen; omega) (Nat.le_refl _)
  have hbel : Below w.heap.size w w1 := (Below.refl _ _).grown hgr (Nat.le_refl _) (fun k h => by cases h)
  rw [show ((2 * s.size + 2 : Nat) : Int) = 2 * (s.size : Int) + 2 from by omega] at hmk
  obtain ⟨g2, cap2, w2, hr2, ho2⟩ := push1 47 w w1 w.heap.size w.heap.size 0 (2 * s.size + 2) [] (by omega) ⟨rfl, hown, hbel, hgr.size⟩
  have HR2 := hide hr2
  have HO2 := hide ho2
  clear hr2 ho2 hown hgr hbel
  go_enter Try.func3, Try.ntmps3
  go_wp2_with (first | (go_at_call 5; refine (unhide h5).mono ?_; rintro e w' ⟨⟨r, rfl⟩, rfl⟩) | (at_builtin; refine wpList_append_run rfl _ _ _ rfl _ _ rfl rfl _ _ (unhide HR2) ?_))
  · go_ret
    exact ⟨rfl, Below.refl _ _⟩
  go_loopw [3, 4] (fun v i wr => ∃ k g n cap : Nat, k ≤ s.size ∧ i = .int .i64 k ∧ v = .slice (some ⟨g, 0, none⟩) n cap ∧ n ≤ 2 * k + 1 ∧ Hid (OwnB w' w'.heap.size wr g n cap (47 :: dbl (s.data.toList.take k)))) (fun _ i _ => s.size - (intOf i).toNat)
  case atStart => exact ⟨0, g2, 1, cap2, Nat.zero_le _, rfl, rfl, by omega, by have h0 := unhide HO2; simp [dbl]; exact hide h0⟩
  case round =>
    obtain ⟨k, g, n, cap, hk, rfl, rfl, hn, HOW⟩ := hrel
    clear HO2 HR2 hmk
    by_cases hlt : k < s.size
    · have hts := take_snoc s k hlt
      by_cases hc : s[k] = 47
      · have hnext : (47 :: dbl (s.data.toList.take k)) ++ [s[k]] ++ [47] = 47 :: dbl (s.data.toList.take (k + 1)) := by rw [hts, dbl_snoc, if_pos hc, hc]; simp
        obtain ⟨g3, cap3, w3, hr3, ho3⟩ := push1 s[k] w' wr w'.heap.size g n cap _ (by omega) (unhide HOW)
        obtain ⟨g4, cap4, w4, hr4, ho4⟩ := push1 47 w' w3 w'.heap.size g3 (n + 1) cap3 _ (by omega) ho3
        rw [hnext] at ho4
        have ec : ((s[k].toNat : Int) == 47) = true := by rw [hc]; rfl
        have H3 := hide hr3
        have H4 := hide hr4
        have HO := hide ho4
        clear hr3 hr4 ho3 ho4 HOW hnext hts hc
        go_wp2_with (first | (at_builtin; refine wpList_append_run rfl _ _ _ rfl _ _ rfl rfl _ _ (unhide H3) ?_; clear H3) | (at_builtin; refine wpList_append_run rfl _ _ _ rfl _ _ rfl rfl _ _ (unhide H4) ?_; clear H4))
        go_roundw
        case rel => exact ⟨k + 1, g4, n + 1 + 1, cap4, by omega, by go_num, rfl, by omega, HO⟩
        case measure => simp [intOf]; omega
      · have hnext : (47 :: dbl (s.data.toList.take k)) ++ [s[k]] = 47 :: dbl (s.data.toList.take (k + 1)) := by rw [hts, dbl_snoc, if_neg hc]; simp
        obtain ⟨g3, cap3, w3, hr3, ho3⟩ := push1 s[k] w' wr w'.heap.size g n cap _ (by omega) (unhide HOW)
        rw [hnext] at ho3
        have ec : ((s[k].toNat : Int) == 47) = false := by
          rw [beq_eq_false_iff_ne]
          intro h
          exact hc (UInt8.toNat_inj.1 (by simpa using (by omega : s[k].toNat = 47)))
        have H3 := hide hr3
        have HO := hide ho3
        clear hr3 ho3 HOW hnext hts hc
        go_wp2_with (at_builtin; refine wpList_append_run rfl _ _ _ rfl _ _ rfl rfl _ _ (unhide H3) ?_; clear H3)
        go_roundw
        case rel => exact ⟨k + 1, g3, n + 1, cap3, by omega, by go_num, rfl, by omega, HO⟩
        case measure => simp [intOf]; omega
    · obtain rfl : k = s.size := by omega
      obtain ⟨g3, cap3, w3, hr3, ho3⟩ := push1 47 w' wr w'.heap.size g n cap _ (by omega) (unhide HOW)
      have H3 := hide hr3
      have HO := hide ho3
      clear hr3 ho3 HOW
      go_wp2_with (at_builtin; refine wpList_append_run rfl _ _ _ rfl _ _ rfl rfl _ _ (unhide H3) ?_; clear H3)
      have hFS := nm_dbl s
      have hcnt := nm_length s
      have hle := begins_le s.data.toList true
      rw [← hcnt] at hle
      have htk : s.data.toList.take s.size = s.data.toList := List.take_of_length_le (by simp)
      rw [htk] at HO
      have hln : s.data.toList.length = s.size := by simp
      rw [hln] at hle
      have hsT : (mkStr (47 :: dbl s.data.toList ++ [47])).size ≤ 4294967296 := by
        have h2 := dbl_length s.data.toList
        rw [hln] at h2
        show (47 :: dbl s.data.toList ++ [47]).toArray.size ≤ _
        simp
        omega
      generalize hl : nm s = FS at *
      generalize hT : mkStr (47 :: dbl s.data.toList ++ [47]) = T at *
      generalize hm : FS.length = m at *
      have HM := hide hm
      have HCn := hide hcnt
      have H6 := hide (split_len s FS m w3 (by omega) hl hm)
      have H6' := hide (fun w => split_len T FS m w hsT hFS hm)
      have HV : Hid (∀ W, Below w3.heap.size w3 W → (convert 23 9 (.slice (some ⟨g3, 0, none⟩) (n + 1) cap3)).run Try.prog W = .ok (.string T) W) := fun W hb => by
        rw [← hT]
        exact conv_own _ _ _ _ _ _ _ _ (unhide HO) hb
      have HB3 : Hid (Below w'.heap.size w' w3) := (unhide HO).2.2.1
      clear hFS hcnt htk hln hsT hl hT hm HO h5
      refine (unhide H6).mono ?_
      rintro e w5 ⟨A5, rfl, hrow5, hb5⟩
      have hv := (unhide HV) w5 hb5
      have R5 := hide hrow5
      have B5 := hide ((unhide HB3).trans (hb5.mono (unhide HB3).size))
      clear hrow5 hb5 HV HB3 H6
      go_wp2_with fail
      refine (unhide H6' _).mono ?_
      rintro e w6 ⟨A6, rfl, hrow6, hb6⟩
      have R6 := hide hrow6
      have R5' := hide ((unhide R5).below hb6)
      have B6 := hide ((unhide B5).trans (hb6.mono (unhide B5).size))
      clear hrow6 hb6 hv R5 B5 H6'
      go_wp2_with fail
      refine (same_any A5 A6 m m m FS _ (unhide HM) (by omega) (unhide R5') (unhide R6)).mono ?_
      rintro e w7 ⟨rfl, q, rfl⟩
      clear R6 R5'
      go_wp2
      go_loop [7, 8] (fun t i => ∃ k z : Nat, k ≤ s.size ∧ z ≤ k ∧ i = .int .i64 k ∧ t = .int .i64 z ∧ Hid (z = begins (s.data.toList.take k) true)) (fun _ i => s.size - (intOf i).toNat)
      case atStart => exact ⟨0, 0, Nat.zero_le _, Nat.le_refl _, rfl, rfl, by rw [List.take_zero]; exact hide rfl⟩
      case round =>
        obtain ⟨k, z, hk, hz, rfl, rfl, HZ⟩ := hrel
        by_cases hlt2 : k < s.size
        · by_cases hc : s[k] = 47
          · have ec := is47 s[k]
            have HZ' : Hid (z = begins (s.data.toList.take (k + 1)) true) := (unhide HZ).trans (count_slash s k hlt2 hc).symm
            rw [show decide (s[k] = 47) = true by simp [hc]] at ec
            have en : ((s[k].toNat : Int) != 47) = false := by simp [bne, ec]
            clear hc HZ
            go_wp2
            go_round
            case rel => exact ⟨k + 1, z, by omega, by omega, by go_num, rfl, HZ'⟩
            case measure => simp [intOf]; omega
          · have ec := is47 s[k]
            rw [show decide (s[k] = 47) = false by simp [hc]] at ec
            have en : ((s[k].toNat : Int) != 47) = true := by simp [bne, ec]
            cases k with
            | zero =>
              have HZ' : Hid (z + 1 = begins (s.data.toList.take (0 + 1)) true) := by rw [count_first s hlt2 hc, ← unhide HZ]; exact hide rfl
              clear hc HZ
              go_wp2
              go_round
              case rel => exact ⟨0 + 1, z + 1, by omega, by omega, by go_num, by go_num, HZ'⟩
              case measure => simp [intOf]; omega
            | succ j =>
              have hj : j < s.size := by omega
              have e0 : ((j : Int) + 1 == 0) = false := by rw [beq_eq_false_iff_ne]; omega
              by_cases hp : s[j] = 47
              · have ep := is47 s[j]
                rw [show decide (s[j] = 47) = true by simp [hp]] at ep
                have HZ' : Hid (z + 1 = begins (s.data.toList.take (j + 1 + 1)) true) := by rw [count_new s j hlt2 hc hp, ← unhide HZ]; exact hide rfl
                clear hc HZ hp
                go_wp2
                go_round
                case rel => exact ⟨j + 1 + 1, z + 1, by omega, by omega, by go_num, by go_num, HZ'⟩
                case measure => simp [intOf]; omega
              · have ep := is47 s[j]
                rw [show decide (s[j] = 47) = false by simp [hp]] at ep
                have HZ' : Hid (z = begins (s.data.toList.take (j + 1 + 1)) true) := by rw [count_on s j hlt2 hp, ← unhide HZ]; exact hide rfl
                clear hc HZ hp
                go_wp2
                go_round
                case rel => exact ⟨j + 1 + 1, z, by omega, by omega, by go_num, rfl, HZ'⟩
                case measure => simp [intOf]; omega
        · obtain rfl : k = s.size := by omega
          obtain rfl : z = m := by
            rw [unhide HZ, unhide HCn, List.take_of_length_le (by simp)]
          clear HZ HCn
          go_wp2
          go_ret
          exact ⟨rfl, below_drewN' (unhide B6) _⟩
end Go.Proofs.Qxb6615481a
