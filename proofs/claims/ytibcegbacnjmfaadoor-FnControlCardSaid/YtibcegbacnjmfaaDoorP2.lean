/-
  Plain Lean: the reference's functions on addresses.
-/
import Derived.Test.YtibcegbacnjmfaaDoorP1
namespace NU
set_option linter.unusedVariables false
set_option linter.unusedSimpArgs false
def dv (a : Int) : Bytes → Int
  | [] => a
  | c :: r => dv (a * 10 + ((c.toNat : Int) - 48)) r
def v4d (d : Bytes) : Bool :=
  !decide (d.length = 0) && !decide (3 < d.length) && !(decide (1 < d.length) && (d.head? == some 48)) && allDigits d && decide (dv 0 d ≤ 255)
def v4go : Nat → Bytes → Bool
  | 0, s => s.isEmpty
  | r + 1, s => v4d (s.take (index s [46])) && (decide (index s [46] < s.length) == decide (0 < r)) && v4go r (s.drop (index s [46] + 1))
def isIPv4 (s : Bytes) : Bool := v4go 4 s
def isHex (c : UInt8) : Bool := decide (0 ≤ hexv c)
def pcs (last : Bool) : Nat → Nat → Bytes → Int
  | 0, _, _ => -1
  | f + 1, n, s =>
    if index s [58] = s.length ∧ last = true ∧ isIPv4 (s.take (index s [58])) = true then (n : Int) + 2
    else if index s [58] = 0 ∨ 4 < index s [58] then -1
    else if (s.take (index s [58])).all isHex = false then -1
    else if index s [58] = s.length then (n : Int) + 1
    else pcs last f (n + 1) (s.drop (index s [58] + 1))
def pieces (s : Bytes) (last : Bool) : Int := if s = [] then 0 else pcs last (s.length + 1) 0 s
theorem pcs_lo (last : Bool) (f n : Nat) (s : Bytes) : -1 ≤ pcs last f n s := by
  induction f generalizing n s with
  | zero => simp [pcs]
  | succ f ih => unfold pcs; (repeat' split) <;> first | omega | exact ih _ _
theorem pcs_hi (last : Bool) (f n : Nat) (s : Bytes) : pcs last f n s ≤ n + s.length + 2 := by
  induction f generalizing n s with
  | zero => simp [pcs]; omega
  | succ f ih =>
    unfold pcs
    (repeat' split)
    all_goals try omega
    have h1 := ih (n + 1) (s.drop (index s [58] + 1))
    have h2 := index_le s [58]
    simp only [List.length_drop] at h1
    omega
theorem pieces_lo (s : Bytes) (last : Bool) : -1 ≤ pieces s last := by unfold pieces; split; omega; exact pcs_lo _ _ _ _
theorem pieces_hi (s : Bytes) (last : Bool) : pieces s last ≤ s.length + 2 := by
  unfold pieces; split
  · omega
  · have := pcs_hi last (s.length + 1) 0 s; omega
def isIPv6 (s : Bytes) : Bool :=
  if fsub [58, 58] s < 0 then decide (pieces s true = 8)
  else decide (0 ≤ pieces (s.take (fsub [58, 58] s).toNat) false) && decide (0 ≤ pieces (s.drop ((fsub [58, 58] s).toNat + 2)) true) &&
    decide (pieces (s.take (fsub [58, 58] s).toNat) false + pieces (s.drop ((fsub [58, 58] s).toNat + 2)) true ≤ 7)
theorem fsub_dbl (c d : UInt8) (r : Bytes) : fsub [58, 58] (c :: d :: r) = if (c == 58 && d == 58) = true then 0 else if fsub [58, 58] (d :: r) < 0 then -1 else fsub [58, 58] (d :: r) + 1 := by
  rw [fsub]; simp only [List.isPrefixOf, Bool.and_true]
  rw [show ((58 : UInt8) == c) = (c == 58) from Bool.beq_comm, show ((58 : UInt8) == d) = (d == 58) from Bool.beq_comm]
theorem fsub_short (r : Bytes) (h : r.length < 2) : fsub [58, 58] r = -1 := by
  match r, h with
  | [], _ => rfl
  | [a], _ => simp [fsub, List.isPrefixOf]
/-- What a sum of digits is, place by place. -/
def dvb (j : Nat) (v : Int) : Prop := 0 ≤ v ∧ v ≤ 999 ∧ (j ≤ 2 → v ≤ 99) ∧ (j ≤ 1 → v ≤ 9) ∧ (j = 0 → v = 0)
theorem dvb_zero : dvb 0 0 := by unfold dvb; omega
theorem dvb_lo {j : Nat} {v : Int} (h : dvb j v) : 0 ≤ v := h.1
theorem dvb_hi {j : Nat} {v : Int} (h : dvb j v) : v ≤ 999 := h.2.1
theorem dvb_step {j : Nat} {v c : Int} (h : dvb j v) (hj : j < 3) (h0 : 48 ≤ c) (h1 : c ≤ 57) : dvb (j + 1) (v * 10 + (c - 48)) := by unfold dvb at *; omega
theorem allDigits_cons (c : UInt8) (r : Bytes) : allDigits (c :: r) = (isDigit c && allDigits r) := by simp [allDigits]
/-- A scheme's letters: the first is a letter. -/
def sgo : Bool → Bytes → Bool
  | _, [] => true
  | first, c :: r => (isAlpha c || !first && (isDigit c || mem [43, 45, 46] c)) && sgo false r
def schm (s : Bytes) : Bool := sgo true s && !s.isEmpty
/-- Where the colon behind a scheme stands; -1: there is no scheme; -2: the text opens with a colon. -/
def gsc : Nat → Bytes → Int
  | _, [] => -1
  | i, c :: r =>
    if isAlpha c then gsc (i + 1) r
    else if isDigit c || mem [43, 45, 46] c then (if i = 0 then -1 else gsc (i + 1) r)
    else if c = 58 then (if i = 0 then -2 else (i : Int))
    else -1
def gsS (l : Bytes) : Bytes := if 0 ≤ gsc 0 l then l.take (gsc 0 l).toNat else []
def gsR (l : Bytes) : Bytes := if 0 ≤ gsc 0 l then l.drop ((gsc 0 l).toNat + 1) else l
end NU
