/-
  Plain Lean: small facts on counting and on small letters.
-/
import Derived.Test.YtibcegbacnjmfaaDoorP13
namespace NU
set_option linter.unusedVariables false
set_option linter.unusedSimpArgs false
theorem cnt_nil (c : UInt8) : cnt c [] = 0 := rfl
theorem cnt_cons (c d : UInt8) (r : Bytes) : cnt c (d :: r) = (if d == c then 1 else 0) + cnt c r := by
  unfold cnt; rw [List.filter_cons]; split
  · rw [List.length_cons]; omega
  · omega
theorem cnt_le (c : UInt8) (s : Bytes) : cnt c s ≤ s.length := List.length_filter_le _ _
def isUp (c : UInt8) : Bool := decide (65 ≤ c.toNat) && decide (c.toNat ≤ 90)
theorem lowc_no (c : UInt8) (h : isUp c = false) : lowc c = c := by
  unfold lowc
  rw [if_neg]
  intro hc
  simp [isUp, hc.1, hc.2] at h
theorem lowc_yes (c : UInt8) (h : isUp c = true) : lowc c = c + 32 ∧ ((c + 32).toNat : Int) = (c.toNat : Int) + 32 := by
  have h1 := all_u8 (fun c => !isUp c || (lowc c == c + 32 && decide (((c + 32).toNat : Int) = (c.toNat : Int) + 32))) (by decide +kernel) c
  simpa [h] using h1
theorem lower_same (s : Bytes) (h : s.any isUp = false) : lower s = s := by
  induction s with
  | nil => rfl
  | cons c r ih =>
    rw [List.any_cons, Bool.or_eq_false_iff] at h
    have : lower (c :: r) = lowc c :: lower r := rfl
    rw [this, lowc_no c h.1, ih h.2]
theorem lower_app (a b : Bytes) : lower (a ++ b) = lower a ++ lower b := by simp [lower]
theorem lower_len (s : Bytes) : (lower s).length = s.length := by simp [lower]
/-- What is decoded is no longer than what was written. -/
theorem dec_len (q : Bool) (n : Nat) (s x : Bytes) (hn : s.length ≤ n) (h : dec q s = some x) : x.length ≤ s.length := by
  induction n generalizing s x with
  | zero => have : s = [] := List.eq_nil_of_length_eq_zero (by omega); subst this; cases h; simp
  | succ n ih =>
    match s with
    | [] => cases h; simp
    | c :: r =>
      simp only [List.length_cons] at hn
      by_cases hc : c = 37
      · subst hc
        match r with
        | [] => rw [dec_short _ _ (by simp)] at h; cases h
        | [a] => rw [dec_short _ _ (by simp)] at h; cases h
        | a :: b :: r' =>
          simp only [List.length_cons] at hn
          rw [dec_pct] at h
          split at h
          · obtain ⟨y, hy, rfl⟩ := Option.map_eq_some_iff.1 h
            have := ih r' y (by omega) hy
            simp only [List.length_cons]; omega
          · cases h
      · rw [dec_other _ _ _ hc] at h
        obtain ⟨y, hy, rfl⟩ := Option.map_eq_some_iff.1 h
        have := ih r y (by omega) hy
        simp only [List.length_cons]; omega
theorem dec_nopct (s : Bytes) (h : ∀ c ∈ s, c ≠ 37) : dec false s = some s := by
  induction s with
  | nil => rfl
  | cons c r ih =>
    rw [dec_other _ _ _ (h c (by simp)), ih (fun d hd => h d (by simp [hd]))]; rfl
theorem uns_nopct (m : UInt8) (s : Bytes) (h : ∀ c ∈ s, c ≠ 37) : uns m s = if vet m s then some s else none := by
  unfold uns; rw [dec_nopct s h]
theorem gsc_ascii (i : Nat) (s : Bytes) (h : 0 ≤ gsc i s) : ∀ c ∈ s.take ((gsc i s).toNat - i), c.toNat < 128 := by
  induction s generalizing i with
  | nil => intro c hc; simp at hc
  | cons d r ih =>
    have key : ∀ j, gsc (j + 1) r ≤ -1 ∨ (j : Int) + 1 ≤ gsc (j + 1) r := by
      intro j
      have : ∀ (r : Bytes) (j : Nat), gsc j r ≤ -1 ∨ (j : Int) ≤ gsc j r := by
        intro r
        induction r with
        | nil => intro j; left; simp [gsc]
        | cons e r ih2 =>
          intro j
          unfold gsc
          (repeat' split)
          · rcases ih2 (j + 1) with h | h; exact .inl h; exact .inr (by omega)
          · left; omega
          · rcases ih2 (j + 1) with h | h; exact .inl h; exact .inr (by omega)
          · left; omega
          · right; omega
          · left; omega
      exact this r (j + 1)
    have hd : ∀ c : UInt8, (isAlpha c || isDigit c || mem [43, 45, 46] c) = true → c.toNat < 128 := by
      intro c hc
      have := all_u8 (fun c => !(isAlpha c || isDigit c || mem [43, 45, 46] c) || decide (c.toNat < 128)) (by decide +kernel) c
      simpa [hc] using this
    unfold gsc at h ⊢
    split
    · rename_i ha
      rw [if_pos ha] at h
      intro c hc
      have hk := key i
      rw [show (gsc (i + 1) r).toNat - i = ((gsc (i + 1) r).toNat - (i + 1)) + 1 by omega, List.take_succ_cons] at hc
      rcases List.mem_cons.1 hc with rfl | hc
      · exact hd _ (by rw [ha]; rfl)
      · exact ih (i + 1) h c hc
    · rename_i ha
      rw [if_neg ha] at h
      split
      · rename_i hb
        rw [if_pos hb] at h
        split
        · rename_i h0; rw [if_pos h0] at h; omega
        · rename_i h0
          rw [if_neg h0] at h
          intro c hc
          have hk := key i
          rw [show (gsc (i + 1) r).toNat - i = ((gsc (i + 1) r).toNat - (i + 1)) + 1 by omega, List.take_succ_cons] at hc
          rcases List.mem_cons.1 hc with rfl | hc
          · refine hd _ ?_
            rcases Bool.or_eq_true_iff.1 hb with h' | h' <;> simp [h']
          · exact ih (i + 1) h c hc
      · rename_i hb
        rw [if_neg hb] at h
        split
        · rename_i h58
          split
          · rename_i h0; rw [if_pos h58, if_pos h0] at h; omega
          · intro c hc; simp at hc
        · rename_i h58; rw [if_neg h58] at h; omega
theorem gsS_ascii (s : Bytes) : ∀ c ∈ gsS s, c.toNat < 128 := by
  intro c hc
  unfold gsS at hc
  split at hc
  · rename_i h; exact gsc_ascii 0 s h c (by simpa using hc)
  · cases hc
theorem gsS_len (s : Bytes) : (gsS s).length ≤ s.length := by
  unfold gsS; split
  · rw [List.length_take]; omega
  · simp
theorem gsR_len (s : Bytes) : (gsR s).length ≤ s.length := by
  unfold gsR; split
  · rw [List.length_drop]; omega
  · omega
theorem cutB_len (t s : Bytes) : (cutB t s).length ≤ s.length := by
  unfold cutB; split
  · omega
  · rw [List.length_take]; omega
theorem cutA_len (t s : Bytes) : (cutA t s).length ≤ s.length := by
  unfold cutA; split
  · simp
  · rw [List.length_drop]; omega
theorem pRest_len (s : Bytes) : (pRest s).length ≤ s.length := by
  unfold pRest; split
  · rw [List.length_take]; omega
  · exact cutB_len _ _
theorem pQuery_len (s : Bytes) : (pQuery s).length ≤ s.length := by
  unfold pQuery; split
  · simp
  · exact cutA_len _ _
theorem ends_pos (s : Bytes) (h : ends s [63] = true) : 0 < s.length := by
  have := (List.isSuffixOf_iff_suffix.1 h).length_le
  simp at this; omega
end NU
