import Derived.Test.Qxb6614376aFmtBad
namespace Go.Proofs.Qxb6614376aFmt
open Go.RowKit Go.Extern.Stop Go.Stop Go.Extern

/-- What the array holds: the strings, the number f put in at place q. -/
def els (ss : Nat → ByteArray) (f q j : Nat) : Value := if j < q then .iface 9 (.string (ss j)) else if j = q then .iface 29 (.float .f64 f) else .iface 9 (.string (ss (j - 1)))
theorem els_lo (ss : Nat → ByteArray) (f q j : Nat) (h : j < q) : els ss f q j = .iface 9 (.string (ss j)) := by simp [els, h]
theorem els_at (ss : Nat → ByteArray) (f q : Nat) : els ss f q q = .iface 29 (.float .f64 f) := by simp [els]
theorem els_hi (ss : Nat → ByteArray) (f q j : Nat) (h : q ≤ j) : els ss f q (j + 1) = .iface 9 (.string (ss j)) := by
  simp [els, show ¬ (j + 1 < q) by omega, show ¬ (j + 1 = q) by omega]

/-- One append onto the call's own row, with the argument's block just laid. -/
theorem push_one (x : Value) (h1 : x.oneCell' = true) (B g m cap : Nat) (xs : List Value) (w wr : World) (hm : m ≤ 1048577) (hbw : Below B w wr) (hB : B ≤ wr.heap.size)
    (hown : wr.ownsRow B 20 1 (.slice (some ⟨g, 0, none⟩) m cap) m xs) :
    ∃ g' cap' w', (∀ ty, (Builtin.append_ #[36, 36] ty #[.slice (some ⟨g, 0, none⟩) m cap, .slice (some ⟨wr.heap.size, 0, none⟩) 1 1]).run Tryf.prog (wr.alloc (.cells #[x] 20)) = .ok (.slice (some ⟨g', 0, none⟩) (m + 1) cap') w') ∧
      w'.ownsRow B 20 1 (.slice (some ⟨g', 0, none⟩) (m + 1) cap') (m + 1) (xs ++ [x]) ∧ Below B w w' ∧ B ≤ w'.heap.size := by
  obtain ⟨g', cap', w', hrun, ho, hgr, _, _⟩ := run_append_lies (P := Tryf.prog) (wr.alloc (.cells #[x] 20)) 36 36 B 20 Tryf.t20 .nilIface 1 16 Tryf.underlying36 (by kernel_rfl) rfl rfl rfl rfl (by omega)
    (.slice (some ⟨g, 0, none⟩) m cap) m xs (hown.alloc _) ⟨wr.heap.size, 0, none⟩ 1 1 [x] rfl (cell_one_new _ _ _) (by simpa using h1) (by omega) (by unfold maxLen; omega) (by omega) (by simp; omega) _ rfl
  refine ⟨g', cap', w', fun ty => ?_, ho, ?_, ?_⟩
  · exact hrun
  · exact (hbw.alloc hB _).grown hgr (by simp; omega) (fun k hk => by have := hown.lt k (by simpa using hk); exact this.1)
  · have := hgr.size; simp at this; omega

/-- An append whose run is known, as a step of the walk. -/
theorem wpList_append_run {P : Program} {w : World} {ops : Array Oper} {rest : List Oper} {o : Oper} {a : Act} {Q : Exit → Act → World → Prop} (hgd : o.guard = none) (s x : Operand) (t : TypeId)
    (ho : o.op = .call { callee := .builtin .append, args := #[s, x], argTypes := #[t, t] }) (v vx : Value) (hs : a.eval s = v) (hx : a.eval x = vx) (v' : Value) (w' : World)
    (hr : ∀ ty, (Builtin.append_ #[t, t] ty #[v, vx]).run P w = .ok v' w') (h : wpList P ops Q rest (a.put o.dst v') w') : wpList P ops Q (o :: rest) a w := by
  refine wpList_plain hgd fun K hK => ?_
  unfold Oper.wp execOp
  simp only [ho, resolve, invoke, builtin, Sem.run_bind, Sem.run_pure, Result.andThen_ok, List.map_toArray, List.map_cons, List.map_nil, hs, hx, hr]
  exact hK _ _ h

theorem range_snoc (f : Nat → Value) (k : Nat) : (List.range k).map f ++ [f k] = (List.range (k + 1)).map f := by rw [List.range_succ]; simp
theorem range_get (f : Nat → Value) (n j : Nat) (h : j < n) : ((List.range n).map f)[j]? = some (f j) := by simp [h]

set_option maxRecDepth 100000 in
set_option maxHeartbeats 1000000 in
theorem of_at_some (F : Interp) (ss : Nat → ByteArray) (f b off n cap q : Nat) (w : World) (hF : F.answers w.tape) (hn : n ≤ 65536) (hq : q ≤ n) (hbw : b < w.heap.size) (hc : ∀ j, j < n → w.cell? ⟨b, off + j, none⟩ = some (.string (ss j))) :
    Calls Tryf.prog 9 #[.slice (some ⟨b, off, none⟩) n cap, .int .i64 (q : Int), .float .f64 f] w fun e w' => Refuses w w' e := by
  have hmm := @run_makeMap Tryf.prog
  obtain ⟨w1, hmk, hown, hgr⟩ := run_make_own (P := Tryf.prog) w w.heap.size 36 20 Tryf.t20 .nilIface 1 Tryf.underlying36 (by kernel_rfl) rfl rfl .i64 .i64 (n + 1) (by show 16 * (n + 1) ≤ _; omega) (by unfold maxLen; omega) (Nat.le_refl _)
  have hbel : Below w.heap.size w w1 := (Below.refl _ _).grown hgr (Nat.le_refl _) (fun k h => by cases h)
  have hsz1 : w.heap.size ≤ w1.heap.size := hgr.size
  rw [show ((n + 1 : Nat) : Int) = (n : Int) + 1 from by omega] at hmk
  clear hgr
  have HF := hide hF
  clear hF
  generalize hB : w.heap.size = B at *
  go_enter Tryf.func9, Tryf.ntmps9
  go_wp2
  go_loopw [8, 9] (fun v i wr => ∃ k g c : Nat, k ≤ q ∧ i = .int .i64 k ∧ v = .slice (some ⟨g, 0, none⟩) k c ∧ wr.ownsRow B 20 1 (.slice (some ⟨g, 0, none⟩) k c) k ((List.range k).map (els ss f q)) ∧ Below B w wr ∧ B ≤ wr.heap.size) (fun _ i _ => q - (intOf i).toNat)
  case atStart => exact ⟨0, B, n + 1, Nat.zero_le _, rfl, rfl, hown, hbel, hsz1⟩
  case round =>
    obtain ⟨k, g, c, hk, rfl, rfl, hrow, hbr, hszr⟩ := hrel
    clear hown hbel hmk hsz1
    by_cases hlt : k < q
    · have hcg : wr.cell? ⟨b, off + k, none⟩ = some (.string (ss k)) := (hbr.cell (p := ⟨b, off + k, none⟩) hbw).trans (hc k (by omega))
      obtain ⟨g', c', w', hrun, ho, hb2, hsz2⟩ := push_one (.iface 9 (.string (ss k))) rfl B g k c _ w wr (by omega) hbr hszr hrow
      rw [← els_lo ss f q k hlt, range_snoc] at ho
      have HO := hide ho
      have HB2 := hide hb2
      have HR := hide hrun
      clear hc hrow hbr ho hb2 hrun
      go_wp2_with (at_builtin; refine wpList_append_run rfl _ _ _ rfl _ _ rfl rfl _ _ (unhide HR) ?_)
      go_roundw
      case rel => exact ⟨k + 1, g', c', by omega, by go_num, rfl, unhide HO, unhide HB2, hsz2⟩
      case measure => simp [intOf]; omega
    · obtain rfl : k = q := by omega
      obtain ⟨g', c', w', hrun, ho, hb2, hsz2⟩ := push_one (.iface 29 (.float .f64 f)) rfl B g k c _ w wr (by omega) hbr hszr hrow
      rw [← els_at ss f k, range_snoc] at ho
      have HO := hide ho
      have HB2 := hide hb2
      have HR := hide hrun
      clear hrow hbr ho hb2 hszr hrun
      go_wp2_with (at_builtin; refine wpList_append_run rfl _ _ _ rfl _ _ rfl rfl _ _ (unhide HR) ?_)
      go_loopw [8, 10] (fun v i wr => ∃ m g c : Nat, k ≤ m ∧ m ≤ n ∧ i = .int .i64 m ∧ v = .slice (some ⟨g, 0, none⟩) (m + 1) c ∧ wr.ownsRow B 20 1 (.slice (some ⟨g, 0, none⟩) (m + 1) c) (m + 1) ((List.range (m + 1)).map (els ss f k)) ∧ Below B w wr ∧ B ≤ wr.heap.size) (fun _ i _ => n - (intOf i).toNat)
      case atStart => exact ⟨k, g', c', Nat.le_refl _, hq, rfl, rfl, unhide HO, unhide HB2, hsz2⟩
      case round =>
        obtain ⟨m, g2, c2, hm1, hm2, rfl, rfl, hrow, hbr, hszr⟩ := hrel
        clear HO HB2 HR
        by_cases hlt2 : m < n
        · have hcg : wr.cell? ⟨b, off + m, none⟩ = some (.string (ss m)) := (hbr.cell (p := ⟨b, off + m, none⟩) hbw).trans (hc m hlt2)
          obtain ⟨g3, c3, w3, hrun, ho, hb3, hsz3⟩ := push_one (.iface 9 (.string (ss m))) rfl B g2 (m + 1) c2 _ w wr (by omega) hbr hszr hrow
          rw [← els_hi ss f k m hm1, range_snoc] at ho
          have HO := hide ho
          have HB2 := hide hb3
          have HR := hide hrun
          clear hc hrow hbr ho hb3 hrun
          go_wp2_with (at_builtin; refine wpList_append_run rfl _ _ _ rfl _ _ rfl rfl _ _ (unhide HR) ?_)
          go_roundw
          case rel => exact ⟨m + 1, g3, c3, by omega, by omega, by go_num, rfl, unhide HO, unhide HB2, hsz3⟩
          case measure => simp [intOf]; omega
        · obtain rfl : m = n := by omega
          have hput := run_put wr
          have hcr : ∀ j, j < m + 1 → (wr.alloc (.map #[⟨.string ⟨#[97, 117, 100]⟩, .iface 36 (.slice (some ⟨g2, 0, none⟩) (m + 1) c2), 0⟩] 1)).cell? ⟨g2, j, none⟩ = some (els ss f k j) := fun j hj =>
            (((hrow.alloc _).cellAt j (by omega)).trans (range_get _ _ _ hj))
          have hlt2 : g2 < wr.heap.size := (hrow.lt g2 rfl).2
          have hcall := aud_bad F ss f k g2 (m + 1) c2 _ _ (by show F.answers wr.tape; rw [hbr.tape]; exact unhide HF) (audIs_hit wr (.iface 36 (.slice (some ⟨g2, 0, none⟩) (m + 1) c2))) (by omega) (by omega) (by simp; omega)
            (fun j hj => (hcr j (by omega)).trans (congrArg some (els_lo ss f k j hj))) ((hcr k (by omega)).trans (congrArg some (els_at ss f k)))
          have HC := hide hcall
          clear hc hcr hcall hrow
          go_wp2_with (go_at_call 13; refine (unhide HC).mono ?_; rintro e w4 ⟨ae, rfl, hb3⟩)
          go_ret2
          subst hB
          exact ⟨_, rfl, (hbr.alloc hbr.size _).trans (hb3.mono (by have := hbr.size; simp; omega))⟩

set_option maxRecDepth 100000 in
set_option maxHeartbeats 1000000 in
theorem of_at_none (F : Interp) (f : Nat) (ao : Option Addr) (cap : Nat) (w : World) (hF : F.answers w.tape) :
    Calls Tryf.prog 9 #[.slice ao 0 cap, .int .i64 0, .float .f64 f] w fun e w' => Refuses w w' e := by
  have hmm := @run_makeMap Tryf.prog
  obtain ⟨w1, hmk, hown, hgr⟩ := run_make_own (P := Tryf.prog) w w.heap.size 36 20 Tryf.t20 .nilIface 1 Tryf.underlying36 (by kernel_rfl) rfl rfl .i64 .i64 1 (by show 16 * 1 ≤ _; omega) (by unfold maxLen; omega) (Nat.le_refl _)
  have hbel : Below w.heap.size w w1 := (Below.refl _ _).grown hgr (Nat.le_refl _) (fun k h => by cases h)
  have hsz1 : w.heap.size ≤ w1.heap.size := hgr.size
  rw [show ((1 : Nat) : Int) = 1 from rfl] at hmk
  clear hgr
  generalize hB : w.heap.size = B at *
  obtain ⟨g2, c2, wr, hrun, hrow, hbr, hszr⟩ := push_one (.iface 29 (.float .f64 f)) rfl B B 0 1 _ w w1 (by omega) hbel hsz1 hown
  have HR := hide hrun
  have hput := run_put wr
  have hcr : (wr.alloc (.map #[⟨.string ⟨#[97, 117, 100]⟩, .iface 36 (.slice (some ⟨g2, 0, none⟩) 1 c2), 0⟩] 1)).cell? ⟨g2, 0, none⟩ = some (.iface 29 (.float .f64 f)) := ((hrow.alloc _).cellAt 0 (by omega)).trans rfl
  have hlt2 : g2 < wr.heap.size := (hrow.lt g2 rfl).2
  have hcall := aud_bad F (fun _ => ByteArray.empty) f 0 g2 1 c2 _ _ (by show F.answers wr.tape; rw [hbr.tape]; exact hF) (audIs_hit wr (.iface 36 (.slice (some ⟨g2, 0, none⟩) 1 c2))) (by omega) (by omega) (by simp; omega)
    (fun j hj => by omega) hcr
  have HC := hide hcall
  clear hF hrun hcr hcall hrow hown hbel
  go_enter Tryf.func9, Tryf.ntmps9
  go_wp2
  refine wp_loop_rounds 1 ?_
  rw [rounds_succ]
  go_wp2_with (at_builtin; refine wpList_append_run rfl _ _ _ rfl _ _ rfl rfl _ _ (unhide HR) ?_)
  refine wp_loop_rounds 1 ?_
  rw [rounds_succ]
  go_wp2_with (go_at_call 13; refine (unhide HC).mono ?_; rintro e w4 ⟨ae, rfl, hb3⟩)
  go_ret2
  subst hB
  exact ⟨_, rfl, (hbr.alloc hbr.size _).trans (hb3.mono (by have := hbr.size; simp; omega))⟩

theorem of_at (F : Interp) (v : Value) (n q f : Nat) (ss : Nat → ByteArray) (w : World) (hF : F.answers w.tape) (hn : n ≤ 65536) (hq : q ≤ n) (hr : StrRow w v n ss) :
    Calls Tryf.prog 9 #[v, .int .i64 (q : Int), .float .f64 f] w fun e w' => Refuses w w' e := by
  rcases hr with ⟨ao, cap, rfl, rfl⟩ | ⟨b, off, cap, rfl, hb, hc⟩
  · obtain rfl : q = 0 := by omega
    exact of_at_none F f ao cap w hF
  · exact of_at_some F ss f b off n cap q w hF hn hq hb hc
end Go.Proofs.Qxb6614376aFmt
