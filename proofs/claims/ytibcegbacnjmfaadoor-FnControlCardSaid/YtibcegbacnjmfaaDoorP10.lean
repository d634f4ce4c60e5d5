/-
  Plain Lean: escaping.
-/
import Derived.Test.YtibcegbacnjmfaaDoorP9
namespace NU
set_option linter.unusedVariables false
set_option linter.unusedSimpArgs false
def hexd : Bytes := [48, 49, 50, 51, 52, 53, 54, 55, 56, 57, 65, 66, 67, 68, 69, 70]
def hexU (n : UInt8) : UInt8 := hexd.getD n.toNat 0
/-- A blank of a query. -/
def blank (m c : UInt8) : Bool := c == 32 && m == 32
def esc1 (m c : UInt8) : Bytes := if blank m c then [43] else if should m c then [37, hexU (c >>> 4), hexU (c &&& 15)] else [c]
def esc (m : UInt8) : Bytes → Bytes
  | [] => []
  | c :: r => esc1 m c ++ esc m r
def hexN (m : UInt8) : Bytes → Nat
  | [] => 0
  | c :: r => (if should m c && !blank m c then 1 else 0) + hexN m r
def spN (m : UInt8) : Bytes → Nat
  | [] => 0
  | c :: r => (if should m c && blank m c then 1 else 0) + spN m r
theorem esc_app (m : UInt8) (a b : Bytes) : esc m (a ++ b) = esc m a ++ esc m b := by
  induction a with
  | nil => rfl
  | cons c r ih => simp only [List.cons_append, esc, ih, List.append_assoc]
theorem should_blank (m c : UInt8) (h : blank m c = true) : should m c = true := by
  simp [blank] at h
  obtain ⟨rfl, rfl⟩ := h
  decide +kernel
theorem esc_length (m : UInt8) (s : Bytes) : (esc m s).length = s.length + 2 * hexN m s := by
  induction s with
  | nil => rfl
  | cons c r ih =>
    simp only [esc, hexN, List.length_append, ih, List.length_cons, esc1]
    by_cases hb : blank m c = true
    · simp [hb]; omega
    · by_cases hs : should m c = true
      · simp [hb, hs]; omega
      · simp [hb, hs]; omega
theorem hexN_le (m : UInt8) (s : Bytes) : hexN m s ≤ s.length := by
  induction s with
  | nil => simp [hexN]
  | cons c r ih => simp only [hexN, List.length_cons]; split <;> omega
theorem spN_le (m : UInt8) (s : Bytes) : spN m s ≤ s.length := by
  induction s with
  | nil => simp [spN]
  | cons c r ih => simp only [spN, List.length_cons]; split <;> omega
theorem esc_same (m : UInt8) (s : Bytes) (h : spN m s = 0) (h' : hexN m s = 0) : esc m s = s := by
  induction s with
  | nil => rfl
  | cons c r ih =>
    simp only [spN, hexN] at h h'
    rw [esc, ih (by omega) (by omega), esc1]
    have hs : should m c = false := by
      cases hs : should m c with
      | false => rfl
      | true =>
        cases hb : blank m c with
        | false => simp [hs, hb] at h'
        | true => simp [hs, hb] at h
    have hb : ¬ blank m c = true := fun hb => by rw [should_blank m c hb] at hs; cases hs
    rw [if_neg hb, hs]; rfl
def sp43 (c : UInt8) : UInt8 := if c == 32 then 43 else c
theorem spN_query (m : UInt8) (s : Bytes) (h : spN m s ≠ 0) : m = 32 := by
  induction s with
  | nil => exact absurd rfl h
  | cons c r ih =>
    by_cases hr : spN m r = 0
    · simp only [spN, hr] at h
      cases hb : blank m c with
      | false => simp [hb] at h
      | true => simp [blank] at hb; exact hb.2
    · exact ih hr
theorem esc_blank (s : Bytes) (h : hexN 32 s = 0) : esc 32 s = s.map sp43 := by
  induction s with
  | nil => rfl
  | cons c r ih =>
    simp only [hexN] at h
    rw [esc, ih (by omega), List.map_cons, esc1, sp43]
    cases hb : (c == 32) with
    | true => simp [blank, hb]
    | false =>
      have hs : should 32 c = false := by
        cases hs : should 32 c with
        | false => rfl
        | true => simp [hs, blank, hb] at h
      simp [blank, hb, hs]
theorem hexU_toNat (c : UInt8) (hb : c.toNat < 16) : hexd[c.toNat]'(by simp [hexd]; omega) = hexU c := by
  have := all_u8 (fun c => if h : c.toNat < 16 then decide (hexd[c.toNat]'(by simp [hexd]; omega) = hexU c) else true) (by decide +kernel) c
  rw [dif_pos hb] at this
  exact of_decide_eq_true this
theorem shr4_lt (c : UInt8) : (c >>> 4).toNat < 16 := by
  have := all_u8 (fun c => decide ((c >>> 4).toNat < 16)) (by decide +kernel) c
  exact of_decide_eq_true this
theorem and15_lt (c : UInt8) : (c &&& 15).toNat < 16 := by
  have := all_u8 (fun c => decide ((c &&& 15).toNat < 16)) (by decide +kernel) c
  exact of_decide_eq_true this
theorem shr4_nat (c : UInt8) : (c >>> 4).toNat = c.toNat / 16 := by
  have := all_u8 (fun c => decide ((c >>> 4).toNat = c.toNat / 16)) (by decide +kernel) c
  exact of_decide_eq_true this
theorem and15_nat (c : UInt8) : (c &&& 15).toNat = c.toNat % 16 := by
  have := all_u8 (fun c => decide ((c &&& 15).toNat = c.toNat % 16)) (by decide +kernel) c
  exact of_decide_eq_true this
/-- One byte in escaped form decodes to itself: its two digits. -/
theorem hex2_hexU (c : UInt8) : (0 : Int) ≤ hexv (hexU (c >>> 4)) ∧ (0 : Int) ≤ hexv (hexU (c &&& 15)) ∧ hex2 (hexU (c >>> 4)) (hexU (c &&& 15)) = c := by
  have := all_u8 (fun c => decide ((0 : Int) ≤ hexv (hexU (c >>> 4)) ∧ (0 : Int) ≤ hexv (hexU (c &&& 15)) ∧ hex2 (hexU (c >>> 4)) (hexU (c &&& 15)) = c)) (by decide +kernel) c
  exact of_decide_eq_true this
theorem should_pct (m : UInt8) (h : m = 1 ∨ m = 2 ∨ m = 4 ∨ m = 8 ∨ m = 16 ∨ m = 32 ∨ m = 64) : should m 37 = true := by
  rcases h with rfl | rfl | rfl | rfl | rfl | rfl | rfl <;> decide +kernel
/-- What is escaped decodes to itself. -/
theorem dec_esc (q : Bool) (m : UInt8) (s : Bytes) (hp : should m 37 = true) (hq : q = (m == 32)) (h43 : q = true → should m 43 = true) : dec q (esc m s) = some s := by
  induction s with
  | nil => rfl
  | cons c r ih =>
    rw [esc, esc1]
    by_cases hb : blank m c = true
    · rw [if_pos hb, List.singleton_append, dec_other _ _ _ (by decide), ih]
      simp [blank] at hb
      obtain ⟨rfl, rfl⟩ := hb
      rw [hq]; rfl
    · rw [if_neg hb]
      by_cases hs : should m c = true
      · rw [if_pos hs]
        have h := hex2_hexU c
        rw [List.cons_append, List.cons_append, List.cons_append, List.nil_append, dec_pct, if_pos ⟨h.1, h.2.1⟩, ih, h.2.2]; rfl
      · rw [if_neg hs, List.singleton_append, dec_other _ _ _ (fun e => hs (by rw [e]; exact hp)), ih]
        cases q with
        | false => rfl
        | true =>
          have : ¬ c = 43 := fun e => hs (by rw [e]; exact h43 rfl)
          simp [this]
end NU
