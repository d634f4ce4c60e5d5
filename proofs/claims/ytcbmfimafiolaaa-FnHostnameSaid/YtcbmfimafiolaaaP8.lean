/-
  Plain Lean: the parts of a host.
-/
import Derived.Test.YtcbmfimafiolaaaP7
namespace NU
set_option linter.unusedVariables false
set_option linter.unusedSimpArgs false
theorem allDigits_mem (n : Bytes) (h : allDigits n = true) (c : UInt8) (hc : c ∈ n) : isDigit c = true := by
  unfold allDigits at h; exact (List.all_eq_true.1 h) c hc
theorem lastIdx_none (c : UInt8) (s : Bytes) (h : c ∉ s) : lastIdx c s = -1 := by
  induction s with
  | nil => rfl
  | cons d r ih =>
    simp at h
    have := ih h.2
    unfold lastIdx
    rw [this, if_neg (by omega), if_neg (by simpa using fun e => h.1 e.symm)]
theorem lastIdx_at (c : UInt8) (a n : Bytes) (h : c ∉ n) : lastIdx c (a ++ c :: n) = a.length := by
  induction a with
  | nil =>
    have := lastIdx_none c n h
    show lastIdx c (c :: n) = _
    unfold lastIdx
    rw [this, if_neg (by omega)]; simp
  | cons d r ih =>
    rw [List.cons_append]; unfold lastIdx; rw [ih, if_pos (by omega)]; simp
theorem digits_no_colon (n : Bytes) (h : allDigits n = true) : (58 : UInt8) ∉ n := by
  intro hc; have := allDigits_mem n h _ hc; revert this; decide
theorem hpD_port (a n : Bytes) (h : allDigits n = true) : hpD (a ++ 58 :: n) = true := by
  unfold hpD; rw [lastIdx_at _ _ _ (digits_no_colon n h)]
  have : (a ++ 58 :: n).drop (a.length + 1) = n := by simp [List.drop_append]
  rw [Int.toNat_natCast, this, h]; simp
theorem shP_port (a n : Bytes) (h : allDigits n = true) : shP (a ++ 58 :: n) = n := by
  unfold shP; rw [shOk_eq, hpD_port a n h, if_pos rfl, lastIdx_at _ _ _ (digits_no_colon n h), Int.toNat_natCast]
  simp [List.drop_append]
theorem sh0_port (a n : Bytes) (h : allDigits n = true) : sh0 (a ++ 58 :: n) = a := by
  unfold sh0; rw [shOk_eq, hpD_port a n h, if_pos rfl, lastIdx_at _ _ _ (digits_no_colon n h), Int.toNat_natCast]
  simp
theorem shB_box (h : Bytes) : shB (91 :: h ++ [93]) = true := by
  unfold shB begins ends
  rw [Bool.and_eq_true]
  exact ⟨List.isPrefixOf_iff_prefix.2 ⟨h ++ [93], rfl⟩, List.isSuffixOf_iff_suffix.2 ⟨91 :: h, rfl⟩⟩
theorem box_mid (h : Bytes) : ((91 :: h ++ [93]).drop 1).take ((91 :: h ++ [93]).length - 2) = h := by
  simp
theorem hpD_box (h : Bytes) : hpD (91 :: h ++ [93]) = false := by
  unfold hpD
  by_cases hi : 0 ≤ lastIdx 58 (91 :: h ++ [93])
  · obtain ⟨i, hi⟩ := Int.eq_ofNat_of_zero_le hi
    have hd := lastIdx_drop _ _ _ hi
    rw [hi, Int.toNat_natCast]
    cases hA : allDigits ((91 :: h ++ [93]).drop (i + 1)) with
    | false => simp
    | true =>
      exfalso
      have hlt : i < (91 :: h ++ [93]).length := by
        apply Classical.byContradiction; intro hn
        rw [List.drop_eq_nil_of_le (by omega)] at hd; cases hd
      have hl : ((91 :: h ++ [93]).drop i).getLast? = some 93 := by
        rw [List.getLast?_drop, if_neg (by omega), List.getLast?_append]; rfl
      rw [hd] at hl
      cases hq : (91 :: h ++ [93]).drop (i + 1) with
      | nil => rw [hq] at hl; simp at hl
      | cons a r =>
        rw [hq, List.getLast?_cons_cons] at hl
        have := List.mem_of_getLast? hl
        rw [hq] at hA
        have := allDigits_mem _ hA _ this
        revert this; decide
  · rw [decide_eq_false hi]; rfl
theorem box_law (h n : Bytes) (hn : allDigits n = true) :
    shH (91 :: h ++ [93, 58] ++ n) = h ∧ shP (91 :: h ++ [93, 58] ++ n) = n ∧ shH (91 :: h ++ [93]) = h ∧ shP (91 :: h ++ [93]) = [] := by
  have e : 91 :: h ++ [93, 58] ++ n = (91 :: h ++ [93]) ++ 58 :: n := by simp
  refine ⟨?_, ?_, ?_, ?_⟩
  · unfold shH; rw [e, sh0_port _ n hn, shB_box, if_pos rfl, box_mid]
  · rw [e, shP_port _ n hn]
  · have : sh0 (91 :: h ++ [93]) = 91 :: h ++ [93] := by unfold sh0; rw [shOk_eq, hpD_box]; rfl
    unfold shH; rw [this, shB_box, if_pos rfl, box_mid]
  · unfold shP; rw [shOk_eq, hpD_box]; rfl
theorem chars_mem (s : Bytes) (h : chars [] false s = true) (c : UInt8) (hc : c ∈ s) : (unreserved c || mem [33, 36, 38, 39, 40, 41, 42, 43, 44, 59, 61] c) = true := by
  induction s with
  | nil => cases hc
  | cons d r ih =>
    by_cases hp : d = 37
    · subst hp
      exfalso
      match r with
      | [] => simp [chars] at h
      | [a] => simp [chars] at h
      | a :: b :: r' => rw [chars_pct] at h; simp at h
    · rw [chars_other _ _ _ _ (by simpa using hp)] at h
      simp only [Bool.and_eq_true] at h
      rcases List.mem_cons.1 hc with rfl | hc
      · have := h.1; simp [mem] at this ⊢; grind
      · exact ih h.2 hc
theorem name_law (h n : Bytes) (hh : chars [] false h = true) (hn : allDigits n = true) :
    shH (h ++ [58] ++ n) = h ∧ shP (h ++ [58] ++ n) = n ∧ shH h = h := by
  have e : h ++ [58] ++ n = h ++ 58 :: n := by simp
  have h58 : (58 : UInt8) ∉ h := fun hc => by have := chars_mem h hh _ hc; revert this; decide
  have h91 : (91 : UInt8) ∉ h := fun hc => by have := chars_mem h hh _ hc; revert this; decide
  have hB : shB h = false := by
    unfold shB begins
    cases hb : List.isPrefixOf [91] h with
    | false => rfl
    | true =>
      obtain ⟨r, hr⟩ := List.isPrefixOf_iff_prefix.1 hb
      exact absurd (by rw [← hr]; simp) h91
  refine ⟨?_, ?_, ?_⟩
  · unfold shH; rw [e, sh0_port _ n hn, hB]; rfl
  · rw [e, shP_port _ n hn]
  · have : sh0 h = h := by unfold sh0; rw [shOk_eq]; unfold hpD; rw [lastIdx_none _ _ h58]; rfl
    unfold shH; rw [this, hB]; rfl
end NU
