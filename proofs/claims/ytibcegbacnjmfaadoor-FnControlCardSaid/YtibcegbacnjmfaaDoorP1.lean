/-
  Plain Lean: the reference's functions on lists of bytes.
-/
namespace NU
set_option linter.unusedVariables false
set_option linter.unusedSimpArgs false
abbrev Bytes := List UInt8
def isDigit (c : UInt8) : Bool := decide (48 ≤ c.toNat) && decide (c.toNat ≤ 57)
def isAlpha (c : UInt8) : Bool := decide (97 ≤ c.toNat) && decide (c.toNat ≤ 122) || decide (65 ≤ c.toNat) && decide (c.toNat ≤ 90)
def hexv (c : UInt8) : Int :=
  if isDigit c then (c.toNat : Int) - 48
  else if 97 ≤ c.toNat ∧ c.toNat ≤ 102 then (c.toNat : Int) - 87
  else if 65 ≤ c.toNat ∧ c.toNat ≤ 70 then (c.toNat : Int) - 55
  else -1
def mem (l : Bytes) (c : UInt8) : Bool := l.any (fun d => c == d)
def index (s set : Bytes) : Nat := s.findIdx (fun c => mem set c)
def unreserved (c : UInt8) : Bool := isAlpha c || isDigit c || mem [45, 46, 95, 126] c
def begins (s p : Bytes) : Bool := p.isPrefixOf s
def allDigits (s : Bytes) : Bool := s.all isDigit
def chars (more : Bytes) (percent : Bool) : Bytes → Bool
  | [] => true
  | c :: r =>
    if c = 37 then
      match r with
      | a :: b :: r' => percent && decide (0 ≤ hexv a) && decide (0 ≤ hexv b) && chars more percent r'
      | _ => false
    else (unreserved c || mem [33, 36, 38, 39, 40, 41, 42, 43, 44, 59, 61] c || mem more c) && chars more percent r

theorem hexv_lo (c : UInt8) : -1 ≤ hexv c := by
  unfold hexv isDigit; (repeat' split)
  · rename_i h; simp at h; omega
  all_goals omega
theorem hexv_hi (c : UInt8) : hexv c ≤ 15 := by
  unfold hexv isDigit; (repeat' split)
  · rename_i h; simp at h; omega
  all_goals omega
theorem index_le (s t : Bytes) : index s t ≤ s.length := List.findIdx_le_length
theorem mem_cons (d : UInt8) (l : Bytes) (c : UInt8) : mem (d :: l) c = (c == d || mem l c) := by simp [mem]
theorem mem_nil (c : UInt8) : mem [] c = false := rfl
theorem index_nil (t : Bytes) : index [] t = 0 := rfl
theorem index_cons (c : UInt8) (s t : Bytes) : index (c :: s) t = if mem t c then 0 else index s t + 1 := by
  simp only [index, List.findIdx_cons]; cases mem t c <;> rfl
theorem mem_index (s : Bytes) (c : UInt8) : mem s c = decide (index s [c] < s.length) := by
  induction s with
  | nil => rfl
  | cons d s ih =>
    rw [mem_cons, index_cons, mem_cons, mem_nil, Bool.or_false, ih, show (c == d) = (d == c) from Bool.beq_comm]
    cases d == c <;> simp
theorem chars_nil (m : Bytes) (p : Bool) : chars m p [] = true := by simp [chars]
theorem chars_pct (m : Bytes) (p : Bool) (a b : UInt8) (r : Bytes) :
    chars m p (37 :: a :: b :: r) = (p && decide (0 ≤ hexv a) && decide (0 ≤ hexv b) && chars m p r) := by simp [chars]
theorem chars_short (m : Bytes) (p : Bool) (r : Bytes) (h : r.length < 2) : chars m p (37 :: r) = false := by
  match r, h with
  | [], _ => simp [chars]
  | [a], _ => simp [chars]
theorem chars_false (m : Bytes) (r : Bytes) : chars m false (37 :: r) = false := by
  match r with
  | [] => simp [chars]
  | [a] => simp [chars]
  | a :: b :: r => simp [chars]
theorem chars_other (m : Bytes) (p : Bool) (c : UInt8) (r : Bytes) (h : (c == 37) = false) :
    chars m p (c :: r) = ((unreserved c || mem [33, 36, 38, 39, 40, 41, 42, 43, 44, 59, 61] c || mem m c) && chars m p r) := by
  have h' : ¬ c = 37 := by simpa using h
  match r with
  | [] => simp [chars, h']
  | [a] => simp [chars, h']
  | a :: b :: r => rw [chars, if_neg h']
def isScheme (s : Bytes) : Bool :=
  match s with
  | [] => false
  | c :: r => isAlpha c && r.all (fun d => isAlpha d || isDigit d || mem [43, 45, 46] d)

/-- Where a text first stands in another, or -1. -/
def fsub (t : Bytes) : Bytes → Int
  | [] => if t.isEmpty then 0 else -1
  | c :: r => if t.isPrefixOf (c :: r) then 0 else if fsub t r < 0 then -1 else fsub t r + 1
theorem fsub_lo (t s : Bytes) : -1 ≤ fsub t s := by
  induction s with
  | nil => unfold fsub; split <;> omega
  | cons c r ih => unfold fsub; split; omega; split <;> omega
theorem fsub_hi (t s : Bytes) : fsub t s + t.length ≤ s.length ∨ fsub t s = -1 := by
  induction s with
  | nil =>
    unfold fsub; split
    · rename_i h; left; simp at h; simp [h]
    · right; rfl
  | cons c r ih =>
    unfold fsub; split
    · rename_i h; left
      have := (List.isPrefixOf_iff_prefix.1 h).length_le; simp at this ⊢; omega
    · split
      · right; rfl
      · left; simp; omega
def cutB (t s : Bytes) : Bytes := if fsub t s < 0 then s else s.take (fsub t s).toNat
def cutA (t s : Bytes) : Bytes := if fsub t s < 0 then [] else s.drop ((fsub t s).toNat + t.length)
def cutF (t s : Bytes) : Bool := decide (0 ≤ fsub t s)
theorem fsub_one_nil (c : UInt8) : fsub [c] [] = -1 := rfl
theorem fsub_one_cons (c d : UInt8) (r : Bytes) : fsub [c] (d :: r) = if d == c then 0 else if fsub [c] r < 0 then -1 else fsub [c] r + 1 := by
  rw [fsub]; simp only [List.isPrefixOf, Bool.and_true]; rw [show (c == d) = (d == c) from Bool.beq_comm]

/-- Where a byte last stands in a text, or -1. -/
def lastIdx (c : UInt8) : Bytes → Int
  | [] => -1
  | d :: r => if 0 ≤ lastIdx c r then lastIdx c r + 1 else if d == c then 0 else -1
theorem lastIdx_lo (c : UInt8) (s : Bytes) : -1 ≤ lastIdx c s := by
  induction s with
  | nil => simp [lastIdx]
  | cons d r ih => unfold lastIdx; split; omega; split <;> omega
theorem lastIdx_hi (c : UInt8) (s : Bytes) : lastIdx c s < s.length := by
  induction s with
  | nil => simp [lastIdx]
  | cons d r ih => unfold lastIdx; simp only [List.length_cons]; split; omega; split <;> omega
theorem lastIdx_snoc (c d : UInt8) (s : Bytes) : lastIdx c (s ++ [d]) = if d == c then (s.length : Int) else lastIdx c s := by
  induction s with
  | nil => simp [lastIdx]
  | cons a s ih =>
    have hl := lastIdx_lo c s
    simp only [List.cons_append, lastIdx, ih, List.length_cons]
    by_cases h : (d == c) = true
    · simp only [h, if_true]; rw [if_pos (by omega)]; omega
    · simp only [h]; simp only [Bool.false_eq_true, if_false]

/-- A port is nothing, or a colon and digits. -/
def optPort (l : Bytes) : Bool := match l with | [] => true | c :: r => c == 58 && allDigits r
def uiOk (c : UInt8) : Bool := isAlpha c || isDigit c || mem [45, 46, 95, 58, 126, 33, 36, 38, 39, 40, 41, 42, 43, 44, 59, 61, 37, 64] c
def validUserinfo (l : Bytes) : Bool := l.all uiOk
end NU
