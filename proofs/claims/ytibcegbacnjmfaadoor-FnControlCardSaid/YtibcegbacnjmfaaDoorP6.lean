/-
  Plain Lean: the law on schemes: of a valid reference getScheme and the expression of appendix B find the same scheme.
-/
import Derived.Test.YtibcegbacnjmfaaDoorP5
namespace NU
set_option linter.unusedVariables false
set_option linter.unusedSimpArgs false
def sch (c : UInt8) : Bool := isAlpha c || isDigit c || mem [43, 45, 46] c
theorem gsc_pos (i : Nat) (hi : i ≠ 0) (pre rest : Bytes) (h : pre.all sch = true) : gsc i (pre ++ 58 :: rest) = (i + pre.length : Nat) := by
  induction pre generalizing i with
  | nil => simpa using gsc_colon i rest hi
  | cons c pre ih =>
    simp only [List.all_cons, Bool.and_eq_true] at h
    rw [List.cons_append]
    cases ha : isAlpha c
    · rw [gsc_digit i _ ha (by have := h.1; simp [sch, ha] at this; simpa using this) hi, ih (i + 1) (by omega) h.2]; simp; omega
    · rw [gsc_alpha i _ ha, ih (i + 1) (by omega) h.2]; simp; omega
theorem gsc_zero (c : UInt8) (pre rest : Bytes) (hc : isAlpha c = true) (h : pre.all sch = true) : gsc 0 (c :: pre ++ 58 :: rest) = (1 + pre.length : Nat) := by
  rw [List.cons_append, gsc_alpha 0 _ hc, gsc_pos 1 (by omega) pre rest h]
theorem gsc_inv (i : Nat) (s : Bytes) (k : Nat) (h : gsc i s = k) : ∃ pre rest, s = pre ++ 58 :: rest ∧ k = i + pre.length ∧ pre.all sch = true ∧ (i = 0 → pre ≠ []) := by
  induction s generalizing i with
  | nil => simp [gsc] at h
  | cons c r ih =>
    unfold gsc at h
    split at h
    · rename_i ha
      obtain ⟨pre, rest, h1, h2, h3, _⟩ := ih (i + 1) h
      exact ⟨c :: pre, rest, by rw [h1]; rfl, by simp; omega, by simp [sch, ha]; simpa [sch] using h3, fun _ => by simp⟩
    · rename_i ha
      split at h
      · rename_i hd
        split at h
        · omega
        · obtain ⟨pre, rest, h1, h2, h3, _⟩ := ih (i + 1) h
          exact ⟨c :: pre, rest, by rw [h1]; rfl, by simp; omega, by
            simp only [List.all_cons, Bool.and_eq_true]; exact ⟨by simp only [sch]; simp at hd ⊢; rcases hd with hd | hd <;> simp [hd], h3⟩, fun _ => by simp⟩
      · split at h
        · rename_i hc
          split at h
          · omega
          · exact ⟨[], r, by rw [hc]; rfl, by simp; omega, rfl, fun e => by omega⟩
        · omega
theorem gsc_inv2 (i : Nat) (s : Bytes) (h : gsc i s = -2) : i = 0 ∧ ∃ r, s = 58 :: r := by
  induction s generalizing i with
  | nil => simp [gsc] at h
  | cons c r ih =>
    unfold gsc at h
    split at h
    · have := (ih (i + 1) h).1; omega
    · split at h
      · split at h
        · omega
        · have := (ih (i + 1) h).1; omega
      · split at h
        · rename_i hc
          split at h
          · rename_i hi; exact ⟨hi, r, by rw [hc]⟩
          · omega
        · omega
theorem gsc_lo (i : Nat) (s : Bytes) : -2 ≤ gsc i s := by
  induction s generalizing i with
  | nil => simp [gsc]
  | cons c r ih => unfold gsc; (repeat' split) <;> first | omega | exact ih _
theorem index_pre (pre rest set : Bytes) (c : UInt8) (h : pre.all (fun d => !mem set d) = true) (hc : mem set c = true) : index (pre ++ c :: rest) set = pre.length := by
  induction pre with
  | nil => simp [index_cons, hc]
  | cons d pre ih =>
    simp only [List.all_cons, Bool.and_eq_true] at h
    rw [List.cons_append, index_cons, if_neg (by simpa using h.1), ih h.2]; rfl
theorem sch_not (c : UInt8) (h : sch c = true) : mem [58, 47, 63, 35] c = false := by
  cases hm : mem [58, 47, 63, 35] c with
  | false => rfl
  | true =>
    simp [mem] at hm
    rcases hm with rfl | rfl | rfl | rfl <;> revert h <;> decide
theorem all_sch_not (pre : Bytes) (h : pre.all sch = true) : pre.all (fun d => !mem [58, 47, 63, 35] d) = true := by
  simp only [List.all_eq_true] at h ⊢
  intro c hc; rw [sch_not c (h c hc)]; rfl
theorem sgo_false (r : Bytes) : sgo false r = r.all sch := by
  induction r with
  | nil => rfl
  | cons c r ih => simp only [sgo, ih, List.all_cons, sch]; simp [Bool.or_assoc]
theorem schm_cons (c : UInt8) (r : Bytes) : schm (c :: r) = (isAlpha c && r.all sch) := by simp [schm, sgo, sgo_false]
theorem take_index (s set : Bytes) : (s.take (index s set)).all (fun d => !mem set d) = true := by
  induction s with
  | nil => simp [index_nil]
  | cons c s ih =>
    rw [index_cons]
    split
    · simp
    · rename_i h; simp only [List.take_succ_cons, List.all_cons, Bool.and_eq_true]; exact ⟨by simpa using h, ih⟩
/-- A valid reference with a scheme. -/
theorem scheme_yes (s : Bytes) (hv : valid s = true) (h : spS s = true) : gsc 0 s = (spI s : Nat) := by
  have hsch : schm (spScheme s) = true := by
    unfold valid validR at hv
    simp only [h, Bool.true_and, Bool.not_not, Bool.and_eq_true] at hv
    exact hv.1.1.1.1
  have h1 : spScheme s = s.take (spI s) := by rw [spScheme, if_pos h]
  have h2 : 0 < spI s ∧ spI s < s.length ∧ (s.drop (spI s)).head? = some 58 := by
    have := h; unfold spS at this; simp only [Bool.and_eq_true, decide_eq_true_eq, beq_iff_eq] at this; exact ⟨this.1.1, this.1.2, this.2⟩
  obtain ⟨h3, h4, h5⟩ := h2
  have h6 : s = s.take (spI s) ++ 58 :: s.drop (spI s + 1) := by
    conv => lhs; rw [← List.take_append_drop (spI s) s]
    congr 1
    rw [List.drop_eq_getElem_cons h4] at h5 ⊢
    rw [List.head?_cons] at h5
    rw [Option.some.inj h5]
  match hp : s.take (spI s) with
  | [] =>
    have : (s.take (spI s)).length = 0 := by rw [hp]; rfl
    rw [List.length_take] at this; omega
  | c :: pre =>
    rw [h1, hp, schm_cons] at hsch
    simp only [Bool.and_eq_true] at hsch
    rw [hp] at h6
    have hl : (s.take (spI s)).length = spI s := by rw [List.length_take]; omega
    rw [hp] at hl
    simp only [List.length_cons] at hl
    rw [h6, gsc_zero c pre _ hsch.1 hsch.2, ← h6]; omega
theorem scheme_no (s : Bytes) (hv : valid s = true) (h : spS s = false) : gsc 0 s = -1 := by
  have hlo := gsc_lo 0 s
  by_cases h1 : gsc 0 s = -1
  · exact h1
  · exfalso
    by_cases h2 : gsc 0 s = -2
    · obtain ⟨_, r, hr⟩ := gsc_inv2 0 s h2
      have e1 : sp1 s = s := by rw [sp1, h]; rfl
      have e2 : spA s = false := by rw [spA, e1, hr]; rfl
      have e3 : sp2 s = s := by rw [sp2, e2, e1]; rfl
      have e4 : spPath s = 58 :: (s.drop 1).take (index r [63, 35]) := by
        rw [spPath, spPI, e3, hr, index_cons]; simp [mem]
      unfold valid validR at hv
      rw [h, e2] at hv
      simp only [Bool.and_eq_true, Bool.false_or, decide_eq_true_eq, Bool.false_eq_true, if_false] at hv
      have h3 := hv.2.2
      rw [e4, index_cons] at h3
      simp only [show mem [47] 58 = false from rfl, Bool.false_eq_true, if_false, List.take_succ_cons] at h3
      rw [index_cons] at h3
      simp [mem] at h3
    · obtain ⟨k, hk⟩ := Int.eq_ofNat_of_zero_le (show 0 ≤ gsc 0 s by omega)
      obtain ⟨pre, rest, e1, e2, e3, e4⟩ := gsc_inv 0 s k hk
      have e5 : spI s = pre.length := by rw [spI, e1]; exact index_pre pre rest _ 58 (all_sch_not pre e3) rfl
      have e6 : 0 < pre.length := List.length_pos_iff.2 (e4 rfl)
      have : spS s = true := by
        rw [spS, e5]
        have l1 : pre.length < s.length := by rw [e1]; simp
        have l2 : (s.drop pre.length).head? = some 58 := by rw [e1]; simp
        simp [l1, l2]; omega
      rw [h] at this; cases this
end NU
