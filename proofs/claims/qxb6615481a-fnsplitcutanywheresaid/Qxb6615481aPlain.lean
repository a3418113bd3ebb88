import Derived.Lib.FieldsP
namespace Go.Proofs.Qxb6615481a

/-! THE PLAIN LAW: names between slashes, on lists of bytes. 'cur': the name that is being read. -/
def cutAt : List UInt8 → List UInt8 → List (List UInt8)
  | [], cur => if cur = [] then [] else [cur]
  | c :: r, cur => if c = 47 then (if cur = [] then cutAt r [] else cur :: cutAt r []) else cutAt r (cur ++ [c])
def names (l : List UInt8) : List (List UInt8) := cutAt l []

theorem cutAt_slash_nil (r : List UInt8) : cutAt (47 :: r) [] = cutAt r [] := by simp [cutAt]
theorem cutAt_slash (r cur : List UInt8) (h : cur ≠ []) : cutAt (47 :: r) cur = cur :: cutAt r [] := by simp [cutAt, h]
theorem cutAt_byte (c : UInt8) (r cur : List UInt8) (h : c ≠ 47) : cutAt (c :: r) cur = cutAt r (cur ++ [c]) := by simp [cutAt, h]
theorem cutAt_nil (cur : List UInt8) (h : cur ≠ []) : cutAt [] cur = [cur] := by simp [cutAt, h]
theorem cutAt_nil_nil : cutAt [] [] = [] := by simp [cutAt]

/-- A run of bytes that are no slash goes onto the name. -/
theorem cutAt_run : ∀ (x y cur : List UInt8), (∀ c ∈ x, c ≠ 47) → cutAt (x ++ y) cur = cutAt y (cur ++ x)
  | [], y, cur, _ => by simp
  | c :: x, y, cur, h => by
    rw [List.cons_append, cutAt_byte c _ _ (h c (by simp)), cutAt_run x y (cur ++ [c]) (fun d hd => h d (by simp [hd]))]
    simp

/-- What stands ahead of a name that has begun only stands ahead of it. -/
theorem cutAt_ahead : ∀ (r x y : List UInt8), y ≠ [] → ∃ h t, cutAt r y = (y ++ h) :: t ∧ cutAt r (x ++ y) = (x ++ (y ++ h)) :: t
  | [], x, y, hy => ⟨[], [], by simp [cutAt_nil y hy], by rw [cutAt_nil _ (by simp [hy])]; simp⟩
  | c :: r, x, y, hy => by
    by_cases hc : c = 47
    · subst hc
      exact ⟨[], cutAt r [], by rw [cutAt_slash _ _ hy]; simp, by rw [cutAt_slash _ _ (by simp [hy])]; simp⟩
    · obtain ⟨h, t, h1, h2⟩ := cutAt_ahead r x (y ++ [c]) (by simp)
      refine ⟨c :: h, t, ?_, ?_⟩
      · rw [cutAt_byte c r y hc, h1]; simp
      · rw [cutAt_byte c r (x ++ y) hc, List.append_assoc, h2]; simp

theorem cutAt_head (r y : List UInt8) (hy : y ≠ []) : ∃ h t, cutAt r y = (y ++ h) :: t := by
  obtain ⟨h, t, h1, _⟩ := cutAt_ahead r [] y hy
  exact ⟨h, t, h1⟩

/-- Every name is non-empty and holds no slash. -/
theorem cutAt_mem : ∀ (l cur : List UInt8), (∀ c ∈ cur, c ≠ 47) → ∀ n ∈ cutAt l cur, n ≠ [] ∧ ∀ c ∈ n, c ≠ 47
  | [], cur, h, n, hn => by
    by_cases h0 : cur = []
    · simp [cutAt, h0] at hn
    · rw [cutAt_nil cur h0] at hn
      simp at hn
      subst hn
      exact ⟨h0, h⟩
  | c :: r, cur, h, n, hn => by
    by_cases hc : c = 47
    · subst hc
      by_cases h0 : cur = []
      · subst h0
        rw [cutAt_slash_nil] at hn
        exact cutAt_mem r [] h n hn
      · rw [cutAt_slash r cur h0] at hn
        rcases List.mem_cons.1 hn with rfl | hn
        · exact ⟨h0, h⟩
        · exact cutAt_mem r [] (by simp) n hn
    · rw [cutAt_byte c r cur hc] at hn
      refine cutAt_mem r (cur ++ [c]) ?_ n hn
      intro d hd
      rcases List.mem_append.1 hd with hd | hd
      · exact h d hd
      · simp at hd; rw [hd]; exact hc

/-- No name at all: slashes alone. -/
theorem cutAt_none : ∀ (l : List UInt8), cutAt l [] = [] → ∀ c ∈ l, c = 47
  | [], _, c, hc => by simp at hc
  | d :: r, h, c, hc => by
    by_cases hd : d = 47
    · subst hd
      rw [cutAt_slash_nil] at h
      rcases List.mem_cons.1 hc with rfl | hc
      · rfl
      · exact cutAt_none r h c hc
    · rw [cutAt_byte d r [] hd] at h
      obtain ⟨x, t, e⟩ := cutAt_head r ([] ++ [d]) (by simp)
      rw [e] at h
      cases h

/-! ### Slashes doubled, and one at each end -/
def dbl : List UInt8 → List UInt8
  | [] => []
  | c :: r => if c = 47 then 47 :: 47 :: dbl r else c :: dbl r

theorem cutAt_dbl : ∀ (l cur : List UInt8), cutAt (dbl l ++ [47]) cur = cutAt l cur
  | [], cur => by
    by_cases h0 : cur = []
    · subst h0; simp [dbl, cutAt]
    · simp [dbl, cutAt, h0]
  | c :: r, cur => by
    by_cases hc : c = 47
    · subst hc
      simp only [dbl, if_true, List.cons_append]
      by_cases h0 : cur = []
      · subst h0
        rw [cutAt_slash_nil, cutAt_slash_nil, cutAt_slash_nil, cutAt_dbl r []]
      · rw [cutAt_slash _ _ h0, cutAt_slash _ _ h0, cutAt_slash_nil, cutAt_dbl r []]
    · simp only [dbl, if_neg hc, List.cons_append]
      rw [cutAt_byte c _ _ hc, cutAt_byte c _ _ hc, cutAt_dbl r]

theorem names_dbl (l : List UInt8) : names (47 :: (dbl l ++ [47])) = names l := by
  unfold names
  rw [cutAt_slash_nil, cutAt_dbl]

theorem dbl_snoc : ∀ (l : List UInt8) (c : UInt8), dbl (l ++ [c]) = dbl l ++ (if c = 47 then [47, 47] else [c])
  | [], c => by by_cases h : c = 47 <;> simp [dbl, h]
  | d :: r, c => by
    by_cases h : d = 47
    · subst h; simp [dbl, dbl_snoc r c]
    · simp [dbl, h, dbl_snoc r c]
theorem dbl_length : ∀ (l : List UInt8), (dbl l).length ≤ 2 * l.length
  | [] => by simp [dbl]
  | c :: r => by
    have := dbl_length r
    by_cases h : c = 47 <;> simp [dbl, h] <;> omega

/-! ### How many names: how many places where a run begins. 'b': a slash, or nothing, stands ahead. -/
def begins : List UInt8 → Bool → Nat
  | [], _ => 0
  | c :: r, b => if c = 47 then begins r true else (if b then 1 else 0) + begins r false

theorem cutAt_length : ∀ (l cur : List UInt8), (cutAt l cur).length = (if cur = [] then 0 else 1) + begins l (decide (cur = []))
  | [], cur => by by_cases h : cur = [] <;> simp [cutAt, begins, h]
  | c :: r, cur => by
    by_cases hc : c = 47
    · subst hc
      by_cases h0 : cur = []
      · subst h0
        rw [cutAt_slash_nil, cutAt_length r []]
        simp [begins]
      · rw [cutAt_slash r cur h0, List.length_cons, cutAt_length r []]
        simp [begins, h0]
        omega
    · rw [cutAt_byte c r cur hc, cutAt_length r]
      by_cases h0 : cur = [] <;> simp [begins, hc, h0]

theorem begins_snoc : ∀ (l : List UInt8) (b : Bool) (c : UInt8), begins (l ++ [c]) b = begins l b + (if c ≠ 47 ∧ (match l.getLast? with | none => b | some d => decide (d = 47)) = true then 1 else 0)
  | [], b, c => by by_cases h : c = 47 <;> cases b <;> simp [begins, h]
  | d :: r, b, c => by
    have ih := begins_snoc r (decide (d = 47)) c
    have e : (match (d :: r).getLast? with | none => b | some x => decide (x = 47)) = (match r.getLast? with | none => decide (d = 47) | some x => decide (x = 47)) := by
      cases r with
      | nil => rfl
      | cons x r =>
        rw [List.getLast?_cons_cons]
        cases hq : (x :: r).getLast? with
        | none => simp at hq
        | some y => rfl
    rw [e]
    by_cases h : d = 47
    · subst h
      simp only [begins, List.cons_append, if_true]
      simpa using ih
    · simp only [begins, List.cons_append, if_neg h]
      rw [show decide (d = 47) = false by simp [h]] at ih ⊢
      rw [ih]
      omega
theorem names_length (l : List UInt8) : (names l).length = begins l true := by
  unfold names
  rw [cutAt_length]
  simp

/-! ### The text cut in two -/
/-- What has been closed, and the name that is open, behind l. -/
def openAt : List UInt8 → List UInt8 → List (List UInt8) × List UInt8
  | [], cur => ([], cur)
  | c :: r, cur => if c = 47 then (if cur = [] then openAt r [] else (cur :: (openAt r []).1, (openAt r []).2)) else openAt r (cur ++ [c])

theorem cutAt_append : ∀ (a b cur : List UInt8), cutAt (a ++ b) cur = (openAt a cur).1 ++ cutAt b (openAt a cur).2
  | [], b, cur => by simp [openAt]
  | c :: r, b, cur => by
    by_cases hc : c = 47
    · subst hc
      by_cases h0 : cur = []
      · subst h0
        rw [List.cons_append, cutAt_slash_nil, cutAt_append r b []]
        simp [openAt]
      · rw [List.cons_append, cutAt_slash _ _ h0, cutAt_append r b []]
        simp [openAt, h0]
    · rw [List.cons_append, cutAt_byte c _ _ hc, cutAt_append r b]
      simp [openAt, hc]

theorem openAt_nil : ∀ (a cur : List UInt8), (openAt a cur).2 = [] ↔ (match a.getLast? with | none => cur = [] | some c => c = 47)
  | [], cur => by simp [openAt]
  | [c], cur => by
    by_cases hc : c = 47
    · subst hc; by_cases h0 : cur = [] <;> simp [openAt, h0]
    · simp [openAt, hc]
  | c :: d :: r, cur => by
    rw [List.getLast?_cons_cons]
    have key : ∀ cur', ((openAt (d :: r) cur').2 = [] ↔ (match (d :: r).getLast? with | none => cur = [] | some c => c = 47)) := fun cur' => by
      rw [openAt_nil (d :: r) cur']
      cases hq : (d :: r).getLast? with
      | none => simp at hq
      | some y => rfl
    by_cases hc : c = 47
    · subst hc
      by_cases h0 : cur = []
      · subst h0
        rw [show openAt (47 :: d :: r) [] = openAt (d :: r) [] by rw [openAt]; simp]
        exact key []
      · rw [show (openAt (47 :: d :: r) cur).2 = (openAt (d :: r) []).2 by rw [openAt]; simp [h0]]
        exact key []
    · rw [show openAt (c :: d :: r) cur = openAt (d :: r) (cur ++ [c]) by rw [openAt]; simp [hc]]
      exact key _

/-- The cut falls between two bytes that are no slash. -/
def glued (a b : List UInt8) : Bool := (match a.getLast? with | none => false | some c => decide (c ≠ 47)) && (match b.head? with | none => false | some c => decide (c ≠ 47))

theorem names_apart (a b : List UInt8) (h : glued a b = false) : names (a ++ b) = names a ++ names b := by
  unfold names
  have ha : cutAt a [] = (openAt a []).1 ++ cutAt [] (openAt a []).2 := by simpa using cutAt_append a [] []
  rw [cutAt_append, ha, List.append_assoc]
  congr 1
  by_cases h0 : (openAt a []).2 = []
  · rw [h0, cutAt_nil_nil]; simp
  · rw [cutAt_nil _ h0]
    have hl := mt (openAt_nil a []).2 h0
    cases hq : a.getLast? with
    | none => rw [hq] at hl; simp at hl
    | some c =>
      rw [hq] at hl
      cases b with
      | nil => rw [cutAt_nil _ h0, cutAt_nil_nil]; simp
      | cons d r =>
        have hd : d = 47 := by
          have : c ≠ 47 := hl
          simpa [glued, hq, this] using h
        subst hd
        rw [cutAt_slash _ _ h0, cutAt_slash_nil]
        simp

theorem names_glued (a b : List UInt8) (h : glued a b = true) : ∃ E x y T, names a = E ++ [x] ∧ names b = y :: T ∧ names (a ++ b) = E ++ (x ++ y) :: T := by
  unfold names
  have ha : cutAt a [] = (openAt a []).1 ++ cutAt [] (openAt a []).2 := by simpa using cutAt_append a [] []
  unfold glued at h
  rw [Bool.and_eq_true] at h
  obtain ⟨h1, h2⟩ := h
  cases hq : a.getLast? with
  | none => rw [hq] at h1; cases h1
  | some c =>
    rw [hq] at h1
    have hc : c ≠ 47 := by simpa using h1
    have h0 : (openAt a []).2 ≠ [] := fun e => by
      have := (openAt_nil a []).1 e
      rw [hq] at this
      exact hc this
    cases b with
    | nil => cases h2
    | cons d r =>
      have hd : d ≠ 47 := by simpa using h2
      obtain ⟨hh, t, e1, e2⟩ := cutAt_ahead r (openAt a []).2 [d] (by simp)
      refine ⟨(openAt a []).1, (openAt a []).2, d :: hh, t, ?_, ?_, ?_⟩
      · rw [ha, cutAt_nil _ h0]
      · rw [cutAt_byte d r [] hd]; simpa using e1
      · rw [cutAt_append, cutAt_byte d r _ hd, e2]; simp

/-! ### The reading of the names along the text (namesHoldJust) -/
/-- Inside a name: the next byte of the text is the name's next byte. -/
theorem along_in (l n : List UInt8) (q : Nat) (R : List (List UInt8)) (hq : q < n.length) (hq0 : 0 < q) (h : cutAt l (n.take q) = n :: R) :
    ∃ r, l = n[q] :: r ∧ cutAt r (n.take (q + 1)) = n :: R := by
  have hne : n.take q ≠ [] := by simp; constructor <;> (intro h; simp_all)
  cases l with
  | nil =>
    rw [cutAt_nil _ hne] at h
    have := congrArg List.length (List.cons.inj h).1
    simp at this
    omega
  | cons c r =>
    by_cases hc : c = 47
    · subst hc
      rw [cutAt_slash _ _ hne] at h
      have := congrArg List.length (List.cons.inj h).1
      simp at this
      omega
    · rw [cutAt_byte c r _ hc] at h
      obtain ⟨x, t, e⟩ := cutAt_head r (n.take q ++ [c]) (by simp)
      rw [e] at h
      have hn1 := (List.cons.inj h).1
      have hcq : n[q] = c := by
        have : n[q]? = some c := by rw [← hn1]; simp [Nat.min_eq_left (Nat.le_of_lt hq)]
        rw [List.getElem?_eq_getElem hq] at this
        exact Option.some.inj this
      refine ⟨r, by rw [hcq], ?_⟩
      rw [List.take_succ_eq_append_getElem hq, hcq, e]
      exact h

/-- Ahead of a name: slashes, then its first byte. -/
theorem along_at (l n : List UInt8) (R : List (List UInt8)) (h : cutAt l [] = n :: R) : ∃ c r, l = c :: r ∧ ((c = 47 ∧ cutAt r [] = n :: R) ∨ (c ≠ 47 ∧ n[0]? = some c ∧ cutAt r (n.take 1) = n :: R)) := by
  cases l with
  | nil => simp [cutAt] at h
  | cons c r =>
    refine ⟨c, r, rfl, ?_⟩
    by_cases hc : c = 47
    · subst hc
      rw [cutAt_slash_nil] at h
      exact .inl ⟨rfl, h⟩
    · rw [cutAt_byte c r _ hc] at h
      obtain ⟨x, t, e⟩ := cutAt_head r ([] ++ [c]) (by simp)
      have hn1 := (List.cons.inj (e.symm.trans h)).1
      refine .inr ⟨hc, by rw [← hn1]; simp, ?_⟩
      rw [show n.take 1 = [] ++ [c] by rw [← hn1]; simp]
      exact h

/-- Behind a name. -/
theorem along_end (l n : List UInt8) (R : List (List UInt8)) (hne : n ≠ []) (h : cutAt l n = n :: R) : cutAt l [] = R := by
  cases l with
  | nil => rw [cutAt_nil _ hne] at h; rw [cutAt_nil_nil]; exact (List.cons.inj h).2
  | cons c r =>
    by_cases hc : c = 47
    · subst hc
      rw [cutAt_slash _ _ hne] at h
      rw [cutAt_slash_nil]
      exact (List.cons.inj h).2
    · rw [cutAt_byte c r _ hc] at h
      obtain ⟨x, t, e⟩ := cutAt_head r (n ++ [c]) (by simp)
      have hn1 := congrArg List.length (List.cons.inj (e.symm.trans h)).1
      simp at hn1
end Go.Proofs.Qxb6615481a
