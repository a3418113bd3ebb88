import Derived.Test.Qxb6615481aPlain
namespace Go.Proofs.Qxb6615481a

/-- The closure's predicate on runes. -/
def slash (r : Nat) : Bool := r == 47

theorem get_at (s : ByteArray) (i : Nat) (h : i < s.size) : s.data.toList[i]? = some (s.get! i) := by
  have hl : i < s.data.toList.length := by simpa using h
  rw [List.getElem?_eq_getElem hl]
  have h2 : i < s.data.size := h
  have e : s.get! i = s.data[i] := (getElem!_pos s.data i h2)
  rw [e, Array.getElem_toList]

theorem decode_slash (s : ByteArray) (i : Nat) (h : s.get! i = 47) : Utf8.decode s i = (47, 1) := by
  unfold Utf8.decode
  simp [h]

theorem notSlash {x : UInt8} (h : 128 ≤ x.toNat) : x ≠ 47 := fun e => by subst e; simp at h

set_option maxHeartbeats 1000000 in
theorem decode_other (s : ByteArray) (i : Nat) (hi : i < s.size) (h : s.get! i ≠ 47) :
    slash (Utf8.decode s i).1 = false ∧ 1 ≤ (Utf8.decode s i).2 ∧ i + (Utf8.decode s i).2 ≤ s.size ∧ ∀ k, k < (Utf8.decode s i).2 → s.get! (i + k) ≠ 47 := by
  have h47 : (s.get! i).toNat ≠ 47 := fun e => h (UInt8.toNat_inj.1 e)
  have one : ∀ (r : Nat), r ≠ 47 → slash r = false ∧ 1 ≤ 1 ∧ i + 1 ≤ s.size ∧ ∀ k, k < 1 → s.get! (i + k) ≠ 47 := by
    intro r hr
    refine ⟨by simp [slash, hr], Nat.le_refl _, hi, fun k hk => ?_⟩
    obtain rfl : k = 0 := by omega
    exact h
  unfold Utf8.decode
  simp only [Nat.add_zero]
  split
  · exact one _ h47
  · rename_i h80
    split
    · rename_i hc
      simp only [Bool.and_eq_true, beq_iff_eq, decide_eq_true_eq] at hc
      split
      · rename_i hcc
        refine ⟨by simp [slash]; omega, by simp, by simp; omega, fun k hk => ?_⟩
        simp only at hk
        match k, hk with
        | 0, _ => exact h
        | 1, _ => exact notSlash (by omega)
      · exact one _ (by decide)
    · split
      · rename_i hc
        simp only [Bool.and_eq_true, beq_iff_eq, decide_eq_true_eq] at hc
        split
        · rename_i hcc
          simp only [Bool.and_eq_true, decide_eq_true_eq] at hcc
          refine ⟨by simp [slash]; omega, by simp, by simp; omega, fun k hk => ?_⟩
          simp only at hk
          match k, hk with
          | 0, _ => exact h
          | 1, _ => exact notSlash (by omega)
          | 2, _ => exact notSlash (by omega)
        · exact one _ (by decide)
      · split
        · rename_i hc
          simp only [Bool.and_eq_true, beq_iff_eq, decide_eq_true_eq] at hc
          split
          · rename_i hcc
            simp only [Bool.and_eq_true, decide_eq_true_eq] at hcc
            refine ⟨by simp [slash]; omega, by simp, by simp; omega, fun k hk => ?_⟩
            simp only at hk
            match k, hk with
            | 0, _ => exact h
            | 1, _ => exact notSlash (by omega)
            | 2, _ => exact notSlash (by omega)
            | 3, _ => exact notSlash (by omega)
          · exact one _ (by decide)
        · exact one _ (by decide)

/-- The bytes from a to b. -/
def piece (l : List UInt8) (a b : Nat) : List UInt8 := (l.drop a).take (b - a)

theorem piece_grow (l : List UInt8) (a b c : Nat) (hab : a ≤ b) (hbc : b ≤ c) : piece l a b ++ piece l b c = piece l a c := by
  unfold piece
  rw [show c - a = (b - a) + (c - b) by omega, List.take_add, List.drop_drop, show a + (b - a) = b by omega]

theorem drop_piece (l : List UInt8) (a b : Nat) (hab : a ≤ b) : l.drop a = piece l a b ++ l.drop b := by
  unfold piece
  have := (List.take_append_drop (b - a) (l.drop a)).symm
  rwa [List.drop_drop, show a + (b - a) = b by omega] at this

theorem piece_ne (l : List UInt8) (a b : Nat) (hab : a < b) (hb : b ≤ l.length) : piece l a b ≠ [] := fun e => by
  have := congrArg List.length e
  simp [piece] at this
  omega

theorem mem_piece (s : ByteArray) (a b : Nat) (hb : b ≤ s.size) (h : ∀ k, k < b - a → s.get! (a + k) ≠ 47) : ∀ c ∈ piece s.data.toList a b, c ≠ 47 := by
  intro c hc
  obtain ⟨k, hk⟩ := List.getElem?_of_mem hc
  unfold piece at hk
  rw [List.getElem?_take] at hk
  split at hk
  · rename_i hlt
    rw [List.getElem?_drop, get_at s (a + k) (by omega)] at hk
    rw [← Option.some.inj hk]
    exact h k hlt
  · cases hk

/-- What has been opened. -/
def curOf (l : List UInt8) (st : Option Nat) (pos : Nat) : List UInt8 := match st with | some a => piece l a pos | none => []

theorem spans_names (s : ByteArray) : ∀ (f pos : Nat) (st : Option Nat) (acc : List (Nat × Nat)), s.size ≤ pos + f → pos ≤ s.size → (∀ a, st = some a → a < pos) →
    (Lib.closeSpans s (Lib.spansFromP slash s f pos st acc)).map (fun p => piece s.data.toList p.1 p.2) = acc.map (fun p => piece s.data.toList p.1 p.2) ++ cutAt (s.data.toList.drop pos) (curOf s.data.toList st pos) := by
  have hlen : s.data.toList.length = s.size := by simp
  have fin : ∀ (pos : Nat) (st : Option Nat) (acc : List (Nat × Nat)), pos = s.size → (∀ a, st = some a → a < pos) →
      (Lib.closeSpans s (acc, st)).map (fun p => piece s.data.toList p.1 p.2) = acc.map (fun p => piece s.data.toList p.1 p.2) ++ cutAt (s.data.toList.drop pos) (curOf s.data.toList st pos) := by
    intro pos st acc hp hst
    subst hp
    have hd : s.data.toList.drop s.size = [] := List.drop_eq_nil_of_le (by omega)
    rw [hd]
    cases st with
    | none => simp [Lib.closeSpans, curOf, cutAt]
    | some a =>
      have hne := piece_ne s.data.toList a s.size (hst a rfl) (by omega)
      simp [Lib.closeSpans, curOf, cutAt_nil _ hne]
  intro f
  induction f with
  | zero =>
    intro pos st acc hf hp hst
    exact fin pos st acc (by omega) hst
  | succ f ih =>
    intro pos st acc hf hp hst
    by_cases hlt : pos < s.size
    · have hhead : s.data.toList.drop pos = s.get! pos :: s.data.toList.drop (pos + 1) := by
        have hl : pos < s.data.toList.length := by omega
        rw [List.drop_eq_getElem_cons hl]
        congr 1
        have := get_at s pos hlt
        rw [List.getElem?_eq_getElem hl] at this
        exact Option.some.inj this
      by_cases h47 : s.get! pos = 47
      · have hdec := decode_slash s pos h47
        rw [h47] at hhead
        cases st with
        | none =>
          have e : Lib.spansFromP slash s (f + 1) pos none acc = Lib.spansFromP slash s f (pos + 1) none acc := by
            simp [Lib.spansFromP, hlt, hdec, slash]
          rw [e, ih (pos + 1) none acc (by omega) (by omega) (fun a h => by cases h), hhead]
          simp only [curOf]
          rw [cutAt_slash_nil]
        | some a =>
          have ha := hst a rfl
          have e : Lib.spansFromP slash s (f + 1) pos (some a) acc = Lib.spansFromP slash s f (pos + 1) none (acc ++ [(a, pos)]) := by
            simp [Lib.spansFromP, hlt, hdec, slash]
          rw [e, ih (pos + 1) none (acc ++ [(a, pos)]) (by omega) (by omega) (fun a h => by cases h), hhead]
          simp only [curOf]
          rw [cutAt_slash _ _ (piece_ne s.data.toList a pos ha (by omega))]
          simp
      · obtain ⟨hns, hw1, hw2, hall⟩ := decode_other s pos hlt h47
        generalize hW : (Utf8.decode s pos).2 = wd at *
        have hrun : ∀ cur, cutAt (s.data.toList.drop pos) cur = cutAt (s.data.toList.drop (pos + wd)) (cur ++ piece s.data.toList pos (pos + wd)) := fun cur => by
          rw [drop_piece s.data.toList pos (pos + wd) (by omega)]
          exact cutAt_run _ _ _ (mem_piece s pos (pos + wd) hw2 (fun k hk => hall k (by omega)))
        cases st with
        | none =>
          have e : Lib.spansFromP slash s (f + 1) pos none acc = Lib.spansFromP slash s f (pos + wd) (some pos) acc := by
            simp [Lib.spansFromP, hlt, hns, hW]
          rw [e, ih (pos + wd) (some pos) acc (by omega) hw2 (fun a h => by cases h; omega), hrun]
          simp [curOf]
        | some a =>
          have ha := hst a rfl
          have e : Lib.spansFromP slash s (f + 1) pos (some a) acc = Lib.spansFromP slash s f (pos + wd) (some a) acc := by
            simp [Lib.spansFromP, hlt, hns, hW]
          rw [e, ih (pos + wd) (some a) acc (by omega) hw2 (fun b h => by cases h; omega), hrun]
          simp only [curOf]
          rw [piece_grow _ a pos (pos + wd) (by omega) (by omega)]
    · rw [Lib.spansFromP_end slash s _ _ _ _ hlt]
      exact fin pos st acc (by omega) hst

/-- A string of these bytes. -/
def mkStr (l : List UInt8) : ByteArray := ⟨l.toArray⟩

theorem extract_piece (s : ByteArray) (a b : Nat) : s.extract a b = mkStr (piece s.data.toList a b) := by
  have : (s.extract a b).data = (piece s.data.toList a b).toArray := by
    rw [ByteArray.data_extract]
    apply Array.ext'
    rw [Array.toList_extract]
    rfl
  unfold mkStr
  rw [← this]

/-- strings.FieldsFunc at the slash: the names, byte by byte. -/
theorem fields_names (s : ByteArray) : Lib.goFieldsP slash s = (names s.data.toList).map mkStr := by
  unfold Lib.goFieldsP Lib.spansOfP names
  have h := spans_names s s.size 0 none [] (by omega) (by omega) (fun a h => by cases h)
  simp only [List.map_nil, List.nil_append, List.drop_zero, curOf] at h
  rw [← h, List.map_map]
  exact List.map_congr_left (fun p _ => extract_piece s p.1 p.2)
end Go.Proofs.Qxb6615481a
