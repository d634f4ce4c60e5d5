/-
  Plain Lean: user information; a host and its port.
-/
import Derived.Test.YtibcegbacnjmfaaDoorP6
namespace NU
set_option linter.unusedVariables false
set_option linter.unusedSimpArgs false
theorem uiOk_eq (c : UInt8) : uiOk c = (unreserved c || mem [33, 36, 38, 39, 40, 41, 42, 43, 44, 59, 61, 58, 37, 64] c) := by
  rw [Bool.eq_iff_iff]; simp [uiOk, unreserved, mem]; grind
theorem uiOk_hex (c : UInt8) (h : 0 ≤ hexv c) : uiOk c = true := by
  have : isAlpha c = true ∨ isDigit c = true := by
    unfold hexv at h
    by_cases h1 : isDigit c = true
    · exact .inr h1
    · rw [if_neg h1] at h
      left
      unfold isAlpha
      split at h
      · simp; omega
      · split at h
        · simp; omega
        · omega
  rcases this with h | h <;> simp [uiOk, h]
theorem chars_uiOk (n : Nat) (s : Bytes) (hn : s.length ≤ n) (h : chars [58] true s = true) : s.all uiOk = true := by
  induction n generalizing s with
  | zero => have : s = [] := List.eq_nil_of_length_eq_zero (by omega); rw [this]; rfl
  | succ n ih =>
    match s with
    | [] => rfl
    | c :: r =>
      by_cases hc : c = 37
      · subst hc
        match r with
        | [] => simp [chars] at h
        | [a] => simp [chars] at h
        | a :: b :: r' =>
          rw [chars_pct] at h
          simp only [Bool.true_and, Bool.and_eq_true, decide_eq_true_eq] at h
          simp only [List.length_cons] at hn
          simp only [List.all_cons, uiOk_hex a h.1.1, uiOk_hex b h.1.2, ih r' (by omega) h.2]
          decide
      · rw [chars_other _ _ _ _ (by simpa using hc)] at h
        simp only [Bool.and_eq_true] at h
        simp only [List.length_cons] at hn
        rw [List.all_cons, ih r (by omega) h.2, Bool.and_true, uiOk_eq]
        have := h.1
        simp [mem] at this ⊢
        grind
theorem vui_cons (c : UInt8) (r : Bytes) : validUserinfo (c :: r) = (uiOk c && validUserinfo r) := by simp [validUserinfo]
theorem userinfo_law (s : Bytes) : ((!chars [58] true s || validUserinfo s) && (!(!validUserinfo s) || !validUserinfo s)) = true := by
  unfold validUserinfo
  cases h : chars [58] true s
  · cases s.all uiOk <;> rfl
  · rw [chars_uiOk _ s (Nat.le_refl _) h]; rfl

theorem lastIdx_drop (c : UInt8) (s : Bytes) (i : Nat) (h : lastIdx c s = i) : s.drop i = c :: s.drop (i + 1) := by
  induction s generalizing i with
  | nil => simp [lastIdx] at h
  | cons d r ih =>
    unfold lastIdx at h
    split at h
    · obtain ⟨j, hj⟩ := Int.eq_ofNat_of_zero_le ‹0 ≤ lastIdx c r›
      obtain rfl : i = j + 1 := by omega
      simpa using ih j hj
    · split at h
      · obtain rfl : i = 0 := by omega
        rename_i hd; simp at hd; simp [hd]
      · omega
def ends (s p : Bytes) : Bool := p.isSuffixOf s
def shOk (s : Bytes) : Bool := decide (0 ≤ lastIdx 58 s) && optPort (s.drop (lastIdx 58 s).toNat)
def sh0 (s : Bytes) : Bytes := if shOk s then s.take (lastIdx 58 s).toNat else s
def shP (s : Bytes) : Bytes := if shOk s then s.drop ((lastIdx 58 s).toNat + 1) else []
def shB (h : Bytes) : Bool := begins h [91] && ends h [93]
def shH (s : Bytes) : Bytes := if shB (sh0 s) then ((sh0 s).drop 1).take ((sh0 s).length - 2) else sh0 s
def hpOk (s : Bytes) : Bool := !decide (index s [91, 93] < s.length)
def hpD (s : Bytes) : Bool := decide (0 ≤ lastIdx 58 s) && allDigits (s.drop ((lastIdx 58 s).toNat + 1))
def hpH (s : Bytes) : Bytes := if hpOk s then (if hpD s then s.take (lastIdx 58 s).toNat else s) else []
def hpP (s : Bytes) : Bytes := if hpOk s then (if hpD s then s.drop ((lastIdx 58 s).toNat + 1) else []) else []
theorem shOk_eq (s : Bytes) : shOk s = hpD s := by
  unfold shOk hpD
  by_cases h : 0 ≤ lastIdx 58 s
  · obtain ⟨i, hi⟩ := Int.eq_ofNat_of_zero_le h
    rw [hi, Int.toNat_natCast, lastIdx_drop 58 s i hi]
    simp [optPort]
  · simp [h]
theorem not_begins (s : Bytes) (h : hpOk s = true) (t : Bytes) (ht : t <+: s) : begins t [91] = false := by
  cases hb : begins t [91] with
  | false => rfl
  | true =>
    exfalso
    unfold begins at hb
    obtain ⟨r, hr⟩ := List.isPrefixOf_iff_prefix.1 hb
    obtain ⟨q, hq⟩ := ht
    have : s = 91 :: (r ++ q) := by rw [← hq, ← hr]; rfl
    unfold hpOk at h
    rw [this, index_cons] at h
    simp [mem] at h
theorem hostPort_law (s : Bytes) (h : hpOk s = true) : shH s = hpH s ∧ shP s = hpP s := by
  have hp : sh0 s <+: s := by unfold sh0; split; exact List.take_prefix _ _; exact List.prefix_refl _
  have hb : shB (sh0 s) = false := by unfold shB; rw [not_begins s h _ hp]; rfl
  constructor
  · unfold shH hpH; rw [hb, h, sh0, shOk_eq]; rfl
  · unfold shP hpP; rw [h, shOk_eq]; rfl
end NU
