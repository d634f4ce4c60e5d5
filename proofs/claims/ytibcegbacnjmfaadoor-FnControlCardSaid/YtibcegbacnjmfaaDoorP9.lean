/-
  Plain Lean: the table of the escapes; decoding.
-/
import Derived.Test.YtibcegbacnjmfaaDoorP1
namespace NU
set_option linter.unusedVariables false
set_option linter.unusedSimpArgs false
def tabL : Bytes := [0, 0, 0, 0, 0, 0, 0, 0, 0, 0, 0, 0, 0, 0, 0, 0, 0, 0, 0, 0, 0, 0, 0, 0, 0, 0, 0, 0, 0, 0, 0, 0, 0, 76, 12, 0, 95, 0, 95, 12, 76, 76, 76, 95, 93, 127, 127, 65, 255, 255, 255, 255, 255, 255, 255, 255, 255, 255, 79, 93, 12, 95, 12, 64, 67, 255, 255, 255, 255, 255, 255, 127, 127, 127, 127, 127, 127, 127, 127, 127, 127, 127, 127, 127, 127, 127, 127, 127, 127, 127, 127, 12, 0, 12, 0, 127, 0, 255, 255, 255, 255, 255, 255, 127, 127, 127, 127, 127, 127, 127, 127, 127, 127, 127, 127, 127, 127, 127, 127, 127, 127, 127, 127, 0, 0, 0, 127, 0, 0, 0, 0, 0, 0, 0, 0, 0, 0, 0, 0, 0, 0, 0, 0, 0, 0, 0, 0, 0, 0, 0, 0, 0, 0, 0, 0, 0, 0, 0, 0, 0, 0, 0, 0, 0, 0, 0, 0, 0, 0, 0, 0, 0, 0, 0, 0, 0, 0, 0, 0, 0, 0, 0, 0, 0, 0, 0, 0, 0, 0, 0, 0, 0, 0, 0, 0, 0, 0, 0, 0, 0, 0, 0, 0, 0, 0, 0, 0, 0, 0, 0, 0, 0, 0, 0, 0, 0, 0, 0, 0, 0, 0, 0, 0, 0, 0, 0, 0, 0, 0, 0, 0, 0, 0, 0, 0, 0, 0, 0, 0, 0, 0, 0, 0, 0, 0, 0, 0, 0, 0, 0, 0, 0, 0, 0, 0, 0]
def tab (c : UInt8) : UInt8 := tabL.getD c.toNat 0
theorem all_u8 (p : UInt8 → Bool) (h : ∀ n : Fin 256, p (UInt8.ofNat n.val) = true) (c : UInt8) : p c = true := by
  have := h ⟨c.toNat, c.toNat_lt⟩
  simpa using this
theorem tab_hex (c : UInt8) : (tab c &&& 128 != 0) = decide (0 ≤ hexv c) := by
  have := all_u8 (fun c => (tab c &&& 128 != 0) == decide (0 ≤ hexv c)) (by decide +kernel) c
  simpa using this
/-- What shouldEscape answers. -/
def should (m c : UInt8) : Bool := tab c &&& m == 0
theorem should_query (c : UInt8) : should 32 c = !unreserved c := by
  have := all_u8 (fun c => should 32 c == !unreserved c) (by decide +kernel) c
  simpa using this
def unhex (c : UInt8) : UInt8 := (9 : UInt8) * (c >>> (6 : UInt8)) + (c &&& (15 : UInt8))
def hex2 (a b : UInt8) : UInt8 := UInt8.ofNat ((hexv a).toNat * 16 + (hexv b).toNat)
theorem unhex_eq (c : UInt8) (h : 0 ≤ hexv c) : ((unhex c).toNat : Int) = hexv c := by
  have := all_u8 (fun c => decide (0 ≤ hexv c → ((unhex c).toNat : Int) = hexv c)) (by decide +kernel) c
  exact (of_decide_eq_true this) h
theorem unhex_nat (c : UInt8) : ((unhex c).toNat : Int) = 9 * ((c.toNat : Int) / 64) + (c.toNat : Int) % 16 := by
  have := all_u8 (fun c => decide (((unhex c).toNat : Int) = 9 * ((c.toNat : Int) / 64) + (c.toNat : Int) % 16)) (by decide +kernel) c
  exact of_decide_eq_true this
theorem unhex_hex2 (a b : UInt8) (ha : 0 ≤ hexv a) (hb : 0 ≤ hexv b) : (unhex a <<< 4 ||| unhex b) = hex2 a b := by
  have e1 := unhex_eq a ha
  have e2 := unhex_eq b hb
  have h1 := hexv_hi a
  have h2 := hexv_hi b
  have k1 : unhex a = UInt8.ofNat (hexv a).toNat := by rw [← e1]; simp
  have k2 : unhex b = UInt8.ofNat (hexv b).toNat := by rw [← e2]; simp
  rw [k1, k2, hex2]
  have all : ∀ x y : Fin 16, (UInt8.ofNat x.val <<< 4 ||| UInt8.ofNat y.val) = UInt8.ofNat (x.val * 16 + y.val) := by decide +kernel
  exact all ⟨(hexv a).toNat, by omega⟩ ⟨(hexv b).toNat, by omega⟩

theorem hex2_nat (a b : UInt8) (ha : 0 ≤ hexv a) (hb : 0 ≤ hexv b) : ((hex2 a b).toNat : Int) = hexv a * 16 + hexv b := by
  have h1 := hexv_hi a
  have h2 := hexv_hi b
  unfold hex2
  have e : (UInt8.ofNat ((hexv a).toNat * 16 + (hexv b).toNat)).toNat = (hexv a).toNat * 16 + (hexv b).toNat := by
    rw [UInt8.toNat_ofNat']; omega
  rw [e]; omega

/-- Decoding; q: plus signs become blanks. -/
def dec (q : Bool) : Bytes → Option Bytes
  | [] => some []
  | c :: r =>
    if c = 37 then
      match r with
      | a :: b :: r' => if 0 ≤ hexv a ∧ 0 ≤ hexv b then (dec q r').map (hex2 a b :: ·) else none
      | _ => none
    else (dec q r).map ((if q && c == 43 then 32 else c) :: ·)
def plus (s : Bytes) : Bytes := s.map (fun c => if c == 43 then 32 else c)
theorem dec_pct (q : Bool) (a b : UInt8) (r : Bytes) : dec q (37 :: a :: b :: r) = if 0 ≤ hexv a ∧ 0 ≤ hexv b then (dec q r).map (hex2 a b :: ·) else none := by simp [dec]
theorem dec_short (q : Bool) (r : Bytes) (h : r.length < 2) : dec q (37 :: r) = none := by
  match r, h with
  | [], _ => simp [dec]
  | [a], _ => simp [dec]
theorem dec_other (q : Bool) (c : UInt8) (r : Bytes) (h : c ≠ 37) : dec q (c :: r) = (dec q r).map ((if q && c == 43 then 32 else c) :: ·) := by
  rw [dec.eq_def]; exact if_neg h
theorem hexv_plus (c : UInt8) : (0 ≤ hexv (if c == 43 then 32 else c)) = (0 ≤ hexv c) := by
  by_cases h : c = 43
  · subst h; simp; decide
  · simp [h]
theorem hexv_plus' (c : UInt8) (h : 0 ≤ hexv c) : (if c == 43 then 32 else c) = c := by
  by_cases h' : c = 43
  · subst h'; exact absurd h (by decide)
  · simp [h']
theorem dec_plus (n : Nat) (s : Bytes) (hn : s.length ≤ n) : dec false (plus s) = dec true s := by
  induction n generalizing s with
  | zero => have : s = [] := List.eq_nil_of_length_eq_zero (by omega); rw [this]; rfl
  | succ n ih =>
    match s with
    | [] => rfl
    | c :: r =>
      simp only [List.length_cons] at hn
      by_cases hc : c = 37
      · subst hc
        match r with
        | [] => rw [show plus [37] = [37] from rfl, dec_short _ _ (by simp), dec_short _ _ (by simp)]
        | [a] => rw [show plus [37, a] = 37 :: [if a == 43 then 32 else a] from rfl, dec_short _ _ (by simp), dec_short _ _ (by simp)]
        | a :: b :: r' =>
          rw [show plus (37 :: a :: b :: r') = 37 :: (if a == 43 then 32 else a) :: (if b == 43 then 32 else b) :: plus r' from rfl, dec_pct, dec_pct]
          simp only [hexv_plus]
          simp only [List.length_cons] at hn
          split
          · rename_i h; rw [hexv_plus' a h.1, hexv_plus' b h.2, ih r' (by omega)]
          · rfl
      · rw [show plus (c :: r) = (if c == 43 then 32 else c) :: plus r from rfl, dec_other true c r hc, dec_other false _ _ (by split; decide; exact hc), ih r (by omega)]
        simp
end NU
