/-
  Plain Lean: the lists of bytes that the program computes.
  Plain Lean: the reference's functions on lists of bytes.
  Plain Lean: the reference's functions on addresses.
  Plain Lean: where a scheme ends.
  Plain Lean: the parts of a reference by the expression of RFC 3986, appendix B.
  Plain Lean: an authority, and which references are valid.
  Plain Lean: the law on schemes: of a valid reference getScheme and the expression of appendix B find the same scheme.
  Plain Lean: user information; a host and its port.
  Plain Lean: the table of the escapes; decoding.
  Plain Lean: escaping.
  Plain Lean: resolving a path; the package's way and the reference's way answer alike.
  Plain Lean: what escaping gives is a segment, a setting, a path, a fragment; which hints are valid.
  Plain Lean: what the package's parsing and writing of a URL compute.
  Plain Lean: small facts on counting and on small letters.
  Plain Lean: control characters ahead of the fragment; percent signs in a path or a fragment.
-/
namespace NU
set_option linter.unusedVariables false
set_option linter.unusedSimpArgs false
abbrev Bytes := List UInt8
def isDigit (c : UInt8) : Bool := decide (48 ≤ c.toNat) && decide (c.toNat ≤ 57)
def isAlpha (c : UInt8) : Bool := decide (97 ≤ c.toNat) && decide (c.toNat ≤ 122) || decide (65 ≤ c.toNat) && decide (c.toNat ≤ 90)
def hexv (c : UInt8) : Int :=
  if isDigit c then (c.toNat : Int) - 48
  else if 97 ≤ c.toNat ∧ c.toNat ≤ 102 then (c.toNat : Int) - 87
  else if 65 ≤ c.toNat ∧ c.toNat ≤ 70 then (c.toNat : Int) - 55
  else -1
def mem (l : Bytes) (c : UInt8) : Bool := l.any (fun d => c == d)
def index (s set : Bytes) : Nat := s.findIdx (fun c => mem set c)
def unreserved (c : UInt8) : Bool := isAlpha c || isDigit c || mem [45, 46, 95, 126] c
def begins (s p : Bytes) : Bool := p.isPrefixOf s
def allDigits (s : Bytes) : Bool := s.all isDigit
def chars (more : Bytes) (percent : Bool) : Bytes → Bool
  | [] => true
  | c :: r =>
    if c = 37 then
      match r with
      | a :: b :: r' => percent && decide (0 ≤ hexv a) && decide (0 ≤ hexv b) && chars more percent r'
      | _ => false
    else (unreserved c || mem [33, 36, 38, 39, 40, 41, 42, 43, 44, 59, 61] c || mem more c) && chars more percent r

theorem hexv_lo (c : UInt8) : -1 ≤ hexv c := by
  unfold hexv isDigit; (repeat' split)
  · rename_i h; simp at h; omega
  all_goals omega
theorem hexv_hi (c : UInt8) : hexv c ≤ 15 := by
  unfold hexv isDigit; (repeat' split)
  · rename_i h; simp at h; omega
  all_goals omega
theorem index_le (s t : Bytes) : index s t ≤ s.length := List.findIdx_le_length
theorem mem_cons (d : UInt8) (l : Bytes) (c : UInt8) : mem (d :: l) c = (c == d || mem l c) := by simp [mem]
theorem mem_nil (c : UInt8) : mem [] c = false := rfl
theorem index_nil (t : Bytes) : index [] t = 0 := rfl
theorem index_cons (c : UInt8) (s t : Bytes) : index (c :: s) t = if mem t c then 0 else index s t + 1 := by
  simp only [index, List.findIdx_cons]; cases mem t c <;> rfl
theorem mem_index (s : Bytes) (c : UInt8) : mem s c = decide (index s [c] < s.length) := by
  induction s with
  | nil => rfl
  | cons d s ih =>
    rw [mem_cons, index_cons, mem_cons, mem_nil, Bool.or_false, ih, show (c == d) = (d == c) from Bool.beq_comm]
    cases d == c <;> simp
theorem chars_nil (m : Bytes) (p : Bool) : chars m p [] = true := by simp [chars]
theorem chars_pct (m : Bytes) (p : Bool) (a b : UInt8) (r : Bytes) :
    chars m p (37 :: a :: b :: r) = (p && decide (0 ≤ hexv a) && decide (0 ≤ hexv b) && chars m p r) := by simp [chars]
theorem chars_short (m : Bytes) (p : Bool) (r : Bytes) (h : r.length < 2) : chars m p (37 :: r) = false := by
  match r, h with
  | [], _ => simp [chars]
  | [a], _ => simp [chars]
theorem chars_false (m : Bytes) (r : Bytes) : chars m false (37 :: r) = false := by
  match r with
  | [] => simp [chars]
  | [a] => simp [chars]
  | a :: b :: r => simp [chars]
theorem chars_other (m : Bytes) (p : Bool) (c : UInt8) (r : Bytes) (h : (c == 37) = false) :
    chars m p (c :: r) = ((unreserved c || mem [33, 36, 38, 39, 40, 41, 42, 43, 44, 59, 61] c || mem m c) && chars m p r) := by
  have h' : ¬ c = 37 := by simpa using h
  match r with
  | [] => simp [chars, h']
  | [a] => simp [chars, h']
  | a :: b :: r => rw [chars, if_neg h']
def isScheme (s : Bytes) : Bool :=
  match s with
  | [] => false
  | c :: r => isAlpha c && r.all (fun d => isAlpha d || isDigit d || mem [43, 45, 46] d)

/-- Where a text first stands in another, or -1. -/
def fsub (t : Bytes) : Bytes → Int
  | [] => if t.isEmpty then 0 else -1
  | c :: r => if t.isPrefixOf (c :: r) then 0 else if fsub t r < 0 then -1 else fsub t r + 1
theorem fsub_lo (t s : Bytes) : -1 ≤ fsub t s := by
  induction s with
  | nil => unfold fsub; split <;> omega
  | cons c r ih => unfold fsub; split; omega; split <;> omega
theorem fsub_hi (t s : Bytes) : fsub t s + t.length ≤ s.length ∨ fsub t s = -1 := by
  induction s with
  | nil =>
    unfold fsub; split
    · rename_i h; left; simp at h; simp [h]
    · right; rfl
  | cons c r ih =>
    unfold fsub; split
    · rename_i h; left
      have := (List.isPrefixOf_iff_prefix.1 h).length_le; simp at this ⊢; omega
    · split
      · right; rfl
      · left; simp; omega
def cutB (t s : Bytes) : Bytes := if fsub t s < 0 then s else s.take (fsub t s).toNat
def cutA (t s : Bytes) : Bytes := if fsub t s < 0 then [] else s.drop ((fsub t s).toNat + t.length)
def cutF (t s : Bytes) : Bool := decide (0 ≤ fsub t s)
theorem fsub_one_nil (c : UInt8) : fsub [c] [] = -1 := rfl
theorem fsub_one_cons (c d : UInt8) (r : Bytes) : fsub [c] (d :: r) = if d == c then 0 else if fsub [c] r < 0 then -1 else fsub [c] r + 1 := by
  rw [fsub]; simp only [List.isPrefixOf, Bool.and_true]; rw [show (c == d) = (d == c) from Bool.beq_comm]

/-- Where a byte last stands in a text, or -1. -/
def lastIdx (c : UInt8) : Bytes → Int
  | [] => -1
  | d :: r => if 0 ≤ lastIdx c r then lastIdx c r + 1 else if d == c then 0 else -1
theorem lastIdx_lo (c : UInt8) (s : Bytes) : -1 ≤ lastIdx c s := by
  induction s with
  | nil => simp [lastIdx]
  | cons d r ih => unfold lastIdx; split; omega; split <;> omega
theorem lastIdx_hi (c : UInt8) (s : Bytes) : lastIdx c s < s.length := by
  induction s with
  | nil => simp [lastIdx]
  | cons d r ih => unfold lastIdx; simp only [List.length_cons]; split; omega; split <;> omega
theorem lastIdx_snoc (c d : UInt8) (s : Bytes) : lastIdx c (s ++ [d]) = if d == c then (s.length : Int) else lastIdx c s := by
  induction s with
  | nil => simp [lastIdx]
  | cons a s ih =>
    have hl := lastIdx_lo c s
    simp only [List.cons_append, lastIdx, ih, List.length_cons]
    by_cases h : (d == c) = true
    · simp only [h, if_true]; rw [if_pos (by omega)]; omega
    · simp only [h]; simp only [Bool.false_eq_true, if_false]

/-- A port is nothing, or a colon and digits. -/
def optPort (l : Bytes) : Bool := match l with | [] => true | c :: r => c == 58 && allDigits r
def uiOk (c : UInt8) : Bool := isAlpha c || isDigit c || mem [45, 46, 95, 58, 126, 33, 36, 38, 39, 40, 41, 42, 43, 44, 59, 61, 37, 64] c
def validUserinfo (l : Bytes) : Bool := l.all uiOk
def dv (a : Int) : Bytes → Int
  | [] => a
  | c :: r => dv (a * 10 + ((c.toNat : Int) - 48)) r
def v4d (d : Bytes) : Bool :=
  !decide (d.length = 0) && !decide (3 < d.length) && !(decide (1 < d.length) && (d.head? == some 48)) && allDigits d && decide (dv 0 d ≤ 255)
def v4go : Nat → Bytes → Bool
  | 0, s => s.isEmpty
  | r + 1, s => v4d (s.take (index s [46])) && (decide (index s [46] < s.length) == decide (0 < r)) && v4go r (s.drop (index s [46] + 1))
def isIPv4 (s : Bytes) : Bool := v4go 4 s
def isHex (c : UInt8) : Bool := decide (0 ≤ hexv c)
def pcs (last : Bool) : Nat → Nat → Bytes → Int
  | 0, _, _ => -1
  | f + 1, n, s =>
    if index s [58] = s.length ∧ last = true ∧ isIPv4 (s.take (index s [58])) = true then (n : Int) + 2
    else if index s [58] = 0 ∨ 4 < index s [58] then -1
    else if (s.take (index s [58])).all isHex = false then -1
    else if index s [58] = s.length then (n : Int) + 1
    else pcs last f (n + 1) (s.drop (index s [58] + 1))
def pieces (s : Bytes) (last : Bool) : Int := if s = [] then 0 else pcs last (s.length + 1) 0 s
theorem pcs_lo (last : Bool) (f n : Nat) (s : Bytes) : -1 ≤ pcs last f n s := by
  induction f generalizing n s with
  | zero => simp [pcs]
  | succ f ih => unfold pcs; (repeat' split) <;> first | omega | exact ih _ _
theorem pcs_hi (last : Bool) (f n : Nat) (s : Bytes) : pcs last f n s ≤ n + s.length + 2 := by
  induction f generalizing n s with
  | zero => simp [pcs]; omega
  | succ f ih =>
    unfold pcs
    (repeat' split)
    all_goals try omega
    have h1 := ih (n + 1) (s.drop (index s [58] + 1))
    have h2 := index_le s [58]
    simp only [List.length_drop] at h1
    omega
theorem pieces_lo (s : Bytes) (last : Bool) : -1 ≤ pieces s last := by unfold pieces; split; omega; exact pcs_lo _ _ _ _
theorem pieces_hi (s : Bytes) (last : Bool) : pieces s last ≤ s.length + 2 := by
  unfold pieces; split
  · omega
  · have := pcs_hi last (s.length + 1) 0 s; omega
def isIPv6 (s : Bytes) : Bool :=
  if fsub [58, 58] s < 0 then decide (pieces s true = 8)
  else decide (0 ≤ pieces (s.take (fsub [58, 58] s).toNat) false) && decide (0 ≤ pieces (s.drop ((fsub [58, 58] s).toNat + 2)) true) &&
    decide (pieces (s.take (fsub [58, 58] s).toNat) false + pieces (s.drop ((fsub [58, 58] s).toNat + 2)) true ≤ 7)
theorem fsub_dbl (c d : UInt8) (r : Bytes) : fsub [58, 58] (c :: d :: r) = if (c == 58 && d == 58) = true then 0 else if fsub [58, 58] (d :: r) < 0 then -1 else fsub [58, 58] (d :: r) + 1 := by
  rw [fsub]; simp only [List.isPrefixOf, Bool.and_true]
  rw [show ((58 : UInt8) == c) = (c == 58) from Bool.beq_comm, show ((58 : UInt8) == d) = (d == 58) from Bool.beq_comm]
theorem fsub_short (r : Bytes) (h : r.length < 2) : fsub [58, 58] r = -1 := by
  match r, h with
  | [], _ => rfl
  | [a], _ => simp [fsub, List.isPrefixOf]
/-- What a sum of digits is, place by place. -/
def dvb (j : Nat) (v : Int) : Prop := 0 ≤ v ∧ v ≤ 999 ∧ (j ≤ 2 → v ≤ 99) ∧ (j ≤ 1 → v ≤ 9) ∧ (j = 0 → v = 0)
theorem dvb_zero : dvb 0 0 := by unfold dvb; omega
theorem dvb_lo {j : Nat} {v : Int} (h : dvb j v) : 0 ≤ v := h.1
theorem dvb_hi {j : Nat} {v : Int} (h : dvb j v) : v ≤ 999 := h.2.1
theorem dvb_step {j : Nat} {v c : Int} (h : dvb j v) (hj : j < 3) (h0 : 48 ≤ c) (h1 : c ≤ 57) : dvb (j + 1) (v * 10 + (c - 48)) := by unfold dvb at *; omega
theorem allDigits_cons (c : UInt8) (r : Bytes) : allDigits (c :: r) = (isDigit c && allDigits r) := by simp [allDigits]
/-- A scheme's letters: the first is a letter. -/
def sgo : Bool → Bytes → Bool
  | _, [] => true
  | first, c :: r => (isAlpha c || !first && (isDigit c || mem [43, 45, 46] c)) && sgo false r
def schm (s : Bytes) : Bool := sgo true s && !s.isEmpty
/-- Where the colon behind a scheme stands; -1: there is no scheme; -2: the text opens with a colon. -/
def gsc : Nat → Bytes → Int
  | _, [] => -1
  | i, c :: r =>
    if isAlpha c then gsc (i + 1) r
    else if isDigit c || mem [43, 45, 46] c then (if i = 0 then -1 else gsc (i + 1) r)
    else if c = 58 then (if i = 0 then -2 else (i : Int))
    else -1
def gsS (l : Bytes) : Bytes := if 0 ≤ gsc 0 l then l.take (gsc 0 l).toNat else []
def gsR (l : Bytes) : Bytes := if 0 ≤ gsc 0 l then l.drop ((gsc 0 l).toNat + 1) else l
theorem gsc_nil (i : Nat) : gsc i [] = -1 := rfl
theorem gsc_alpha {c : UInt8} (i : Nat) (r : Bytes) (h : isAlpha c = true) : gsc i (c :: r) = gsc (i + 1) r := by rw [gsc, if_pos h]
theorem gsc_digit {c : UInt8} (i : Nat) (r : Bytes) (h : isAlpha c = false) (h' : (isDigit c || mem [43, 45, 46] c) = true) (hi : i ≠ 0) : gsc i (c :: r) = gsc (i + 1) r := by
  rw [gsc, if_neg (by simp [h]), if_pos h', if_neg hi]
theorem gsc_digit0 {c : UInt8} (r : Bytes) (h : isAlpha c = false) (h' : (isDigit c || mem [43, 45, 46] c) = true) : gsc 0 (c :: r) = -1 := by
  rw [gsc, if_neg (by simp [h]), if_pos h', if_pos rfl]
theorem gsc_colon (i : Nat) (r : Bytes) (hi : i ≠ 0) : gsc i (58 :: r) = i := by
  rw [gsc, if_neg (by decide), if_neg (by decide), if_pos rfl, if_neg hi]
theorem gsc_colon0 (r : Bytes) : gsc 0 (58 :: r) = -2 := by
  rw [gsc, if_neg (by decide), if_neg (by decide), if_pos rfl, if_pos rfl]
theorem gsc_other {c : UInt8} (i : Nat) (r : Bytes) (h : isAlpha c = false) (h' : (isDigit c || mem [43, 45, 46] c) = false) (hc : c ≠ 58) : gsc i (c :: r) = -1 := by
  rw [gsc, if_neg (by simp [h]), if_neg (by simp at h'; simp [h']), if_neg hc]
def spI (s : Bytes) : Nat := index s [58, 47, 63, 35]
def spS (s : Bytes) : Bool := decide (0 < spI s) && decide (spI s < s.length) && ((s.drop (spI s)).head? == some 58)
def spScheme (s : Bytes) : Bytes := if spS s then s.take (spI s) else []
def sp1 (s : Bytes) : Bytes := if spS s then s.drop (spI s + 1) else s
def spA (s : Bytes) : Bool := begins (sp1 s) [47, 47]
def spAI (s : Bytes) : Nat := index ((sp1 s).drop 2) [47, 63, 35]
def spAuth (s : Bytes) : Bytes := if spA s then ((sp1 s).drop 2).take (spAI s) else []
def sp2 (s : Bytes) : Bytes := if spA s then ((sp1 s).drop 2).drop (spAI s) else sp1 s
def spPI (s : Bytes) : Nat := index (sp2 s) [63, 35]
def spPath (s : Bytes) : Bytes := (sp2 s).take (spPI s)
def sp3 (s : Bytes) : Bytes := (sp2 s).drop (spPI s)
def spQ (s : Bytes) : Bool := begins (sp3 s) [63]
def spQI (s : Bytes) : Nat := index (sp3 s) [35]
def spQuery (s : Bytes) : Bytes := if spQ s then ((sp3 s).drop 1).take (spQI s - 1) else []
def sp4 (s : Bytes) : Bytes := if spQ s then (sp3 s).drop (spQI s) else sp3 s
def spF (s : Bytes) : Bool := begins (sp4 s) [35]
def spFrag (s : Bytes) : Bytes := if spF s then (sp4 s).drop 1 else []
theorem sp1_le (s : Bytes) : (sp1 s).length ≤ s.length := by unfold sp1; split; simp; omega
theorem sp2_le (s : Bytes) : (sp2 s).length ≤ s.length := by have := sp1_le s; unfold sp2; split <;> simp <;> omega
theorem sp3_le (s : Bytes) : (sp3 s).length ≤ s.length := by have := sp2_le s; unfold sp3; simp; omega
theorem sp4_le (s : Bytes) : (sp4 s).length ≤ s.length := by have := sp3_le s; unfold sp4; split <;> simp <;> omega
def auI (s : Bytes) : Nat := index s [64]
def auU (s : Bytes) : Bool := decide (auI s < s.length)
def auUser (s : Bytes) : Bytes := if auU s then s.take (auI s) else []
def auRest (s : Bytes) : Bytes := if auU s then s.drop (auI s + 1) else s
def auUok (s : Bytes) : Bool := !auU s || chars [58] true (auUser s)
def auHost (s : Bytes) : Bytes := if auUok s then auRest s else []
def auHok (h : Bytes) : Bool :=
  if begins h [91] then decide (index h [93] < h.length) && isIPv6 ((h.take (index h [93])).drop 1)
  else chars [] false (h.take (index h [58]))
def auS (h : Bytes) : Bytes := if begins h [91] then h.drop (index h [93] + 1) else h.drop (index h [58])
def auOk (s : Bytes) : Bool := auUok s && auHok (auRest s) && optPort (auS (auRest s))
theorem auRest_le (s : Bytes) : (auRest s).length ≤ s.length := by unfold auRest; split; simp; omega
theorem auUser_le (s : Bytes) : (auUser s).length ≤ s.length := by unfold auUser; split <;> simp; omega
theorem auS_le (s : Bytes) : (auS s).length ≤ s.length := by unfold auS; split <;> simp
def validR (hs : Bool) (sc : Bytes) (ha : Bool) (au pa qu fr : Bytes) : Bool :=
  !(hs && !schm sc) && chars [58, 64, 47] true pa && chars [58, 64, 47, 63] true qu && chars [58, 64, 47, 63] true fr &&
  (if ha then auOk au && (pa.isEmpty || pa.head? == some 47)
   else !begins pa [47, 47] && (hs || decide (index (pa.take (index pa [47])) [58] = index pa [47])))
def valid (s : Bytes) : Bool := validR (spS s) (spScheme s) (spA s) (spAuth s) (spPath s) (spQuery s) (spFrag s)
def sch (c : UInt8) : Bool := isAlpha c || isDigit c || mem [43, 45, 46] c
theorem gsc_pos (i : Nat) (hi : i ≠ 0) (pre rest : Bytes) (h : pre.all sch = true) : gsc i (pre ++ 58 :: rest) = (i + pre.length : Nat) := by
  induction pre generalizing i with
  | nil => simpa using gsc_colon i rest hi
  | cons c pre ih =>
    simp only [List.all_cons, Bool.and_eq_true] at h
    rw [List.cons_append]
    cases ha : isAlpha c
    · rw [gsc_digit i _ ha (by have := h.1; simp [sch, ha] at this; simpa using this) hi, ih (i + 1) (by omega) h.2]; simp; omega
    · rw [gsc_alpha i _ ha, ih (i + 1) (by omega) h.2]; simp; omega
theorem gsc_zero (c : UInt8) (pre rest : Bytes) (hc : isAlpha c = true) (h : pre.all sch = true) : gsc 0 (c :: pre ++ 58 :: rest) = (1 + pre.length : Nat) := by
  rw [List.cons_append, gsc_alpha 0 _ hc, gsc_pos 1 (by omega) pre rest h]
theorem gsc_inv (i : Nat) (s : Bytes) (k : Nat) (h : gsc i s = k) : ∃ pre rest, s = pre ++ 58 :: rest ∧ k = i + pre.length ∧ pre.all sch = true ∧ (i = 0 → pre ≠ []) := by
  induction s generalizing i with
  | nil => simp [gsc] at h
  | cons c r ih =>
    unfold gsc at h
    split at h
    · rename_i ha
      obtain ⟨pre, rest, h1, h2, h3, _⟩ := ih (i + 1) h
      exact ⟨c :: pre, rest, by rw [h1]; rfl, by simp; omega, by simp [sch, ha]; simpa [sch] using h3, fun _ => by simp⟩
    · rename_i ha
      split at h
      · rename_i hd
        split at h
        · omega
        · obtain ⟨pre, rest, h1, h2, h3, _⟩ := ih (i + 1) h
          exact ⟨c :: pre, rest, by rw [h1]; rfl, by simp; omega, by
            simp only [List.all_cons, Bool.and_eq_true]; exact ⟨by simp only [sch]; simp at hd ⊢; rcases hd with hd | hd <;> simp [hd], h3⟩, fun _ => by simp⟩
      · split at h
        · rename_i hc
          split at h
          · omega
          · exact ⟨[], r, by rw [hc]; rfl, by simp; omega, rfl, fun e => by omega⟩
        · omega
theorem gsc_inv2 (i : Nat) (s : Bytes) (h : gsc i s = -2) : i = 0 ∧ ∃ r, s = 58 :: r := by
  induction s generalizing i with
  | nil => simp [gsc] at h
  | cons c r ih =>
    unfold gsc at h
    split at h
    · have := (ih (i + 1) h).1; omega
    · split at h
      · split at h
        · omega
        · have := (ih (i + 1) h).1; omega
      · split at h
        · rename_i hc
          split at h
          · rename_i hi; exact ⟨hi, r, by rw [hc]⟩
          · omega
        · omega
theorem gsc_lo (i : Nat) (s : Bytes) : -2 ≤ gsc i s := by
  induction s generalizing i with
  | nil => simp [gsc]
  | cons c r ih => unfold gsc; (repeat' split) <;> first | omega | exact ih _
theorem index_pre (pre rest set : Bytes) (c : UInt8) (h : pre.all (fun d => !mem set d) = true) (hc : mem set c = true) : index (pre ++ c :: rest) set = pre.length := by
  induction pre with
  | nil => simp [index_cons, hc]
  | cons d pre ih =>
    simp only [List.all_cons, Bool.and_eq_true] at h
    rw [List.cons_append, index_cons, if_neg (by simpa using h.1), ih h.2]; rfl
theorem sch_not (c : UInt8) (h : sch c = true) : mem [58, 47, 63, 35] c = false := by
  cases hm : mem [58, 47, 63, 35] c with
  | false => rfl
  | true =>
    simp [mem] at hm
    rcases hm with rfl | rfl | rfl | rfl <;> revert h <;> decide
theorem all_sch_not (pre : Bytes) (h : pre.all sch = true) : pre.all (fun d => !mem [58, 47, 63, 35] d) = true := by
  simp only [List.all_eq_true] at h ⊢
  intro c hc; rw [sch_not c (h c hc)]; rfl
theorem sgo_false (r : Bytes) : sgo false r = r.all sch := by
  induction r with
  | nil => rfl
  | cons c r ih => simp only [sgo, ih, List.all_cons, sch]; simp [Bool.or_assoc]
theorem schm_cons (c : UInt8) (r : Bytes) : schm (c :: r) = (isAlpha c && r.all sch) := by simp [schm, sgo, sgo_false]
theorem take_index (s set : Bytes) : (s.take (index s set)).all (fun d => !mem set d) = true := by
  induction s with
  | nil => simp [index_nil]
  | cons c s ih =>
    rw [index_cons]
    split
    · simp
    · rename_i h; simp only [List.take_succ_cons, List.all_cons, Bool.and_eq_true]; exact ⟨by simpa using h, ih⟩
/-- A valid reference with a scheme. -/
theorem scheme_yes (s : Bytes) (hv : valid s = true) (h : spS s = true) : gsc 0 s = (spI s : Nat) := by
  have hsch : schm (spScheme s) = true := by
    unfold valid validR at hv
    simp only [h, Bool.true_and, Bool.not_not, Bool.and_eq_true] at hv
    exact hv.1.1.1.1
  have h1 : spScheme s = s.take (spI s) := by rw [spScheme, if_pos h]
  have h2 : 0 < spI s ∧ spI s < s.length ∧ (s.drop (spI s)).head? = some 58 := by
    have := h; unfold spS at this; simp only [Bool.and_eq_true, decide_eq_true_eq, beq_iff_eq] at this; exact ⟨this.1.1, this.1.2, this.2⟩
  obtain ⟨h3, h4, h5⟩ := h2
  have h6 : s = s.take (spI s) ++ 58 :: s.drop (spI s + 1) := by
    conv => lhs; rw [← List.take_append_drop (spI s) s]
    congr 1
    rw [List.drop_eq_getElem_cons h4] at h5 ⊢
    rw [List.head?_cons] at h5
    rw [Option.some.inj h5]
  match hp : s.take (spI s) with
  | [] =>
    have : (s.take (spI s)).length = 0 := by rw [hp]; rfl
    rw [List.length_take] at this; omega
  | c :: pre =>
    rw [h1, hp, schm_cons] at hsch
    simp only [Bool.and_eq_true] at hsch
    rw [hp] at h6
    have hl : (s.take (spI s)).length = spI s := by rw [List.length_take]; omega
    rw [hp] at hl
    simp only [List.length_cons] at hl
    rw [h6, gsc_zero c pre _ hsch.1 hsch.2, ← h6]; omega
theorem scheme_no (s : Bytes) (hv : valid s = true) (h : spS s = false) : gsc 0 s = -1 := by
  have hlo := gsc_lo 0 s
  by_cases h1 : gsc 0 s = -1
  · exact h1
  · exfalso
    by_cases h2 : gsc 0 s = -2
    · obtain ⟨_, r, hr⟩ := gsc_inv2 0 s h2
      have e1 : sp1 s = s := by rw [sp1, h]; rfl
      have e2 : spA s = false := by rw [spA, e1, hr]; rfl
      have e3 : sp2 s = s := by rw [sp2, e2, e1]; rfl
      have e4 : spPath s = 58 :: (s.drop 1).take (index r [63, 35]) := by
        rw [spPath, spPI, e3, hr, index_cons]; simp [mem]
      unfold valid validR at hv
      rw [h, e2] at hv
      simp only [Bool.and_eq_true, Bool.false_or, decide_eq_true_eq, Bool.false_eq_true, if_false] at hv
      have h3 := hv.2.2
      rw [e4, index_cons] at h3
      simp only [show mem [47] 58 = false from rfl, Bool.false_eq_true, if_false, List.take_succ_cons] at h3
      rw [index_cons] at h3
      simp [mem] at h3
    · obtain ⟨k, hk⟩ := Int.eq_ofNat_of_zero_le (show 0 ≤ gsc 0 s by omega)
      obtain ⟨pre, rest, e1, e2, e3, e4⟩ := gsc_inv 0 s k hk
      have e5 : spI s = pre.length := by rw [spI, e1]; exact index_pre pre rest _ 58 (all_sch_not pre e3) rfl
      have e6 : 0 < pre.length := List.length_pos_iff.2 (e4 rfl)
      have : spS s = true := by
        rw [spS, e5]
        have l1 : pre.length < s.length := by rw [e1]; simp
        have l2 : (s.drop pre.length).head? = some 58 := by rw [e1]; simp
        simp [l1, l2]; omega
      rw [h] at this; cases this
theorem uiOk_eq (c : UInt8) : uiOk c = (unreserved c || mem [33, 36, 38, 39, 40, 41, 42, 43, 44, 59, 61, 58, 37, 64] c) := by
  rw [Bool.eq_iff_iff]; simp [uiOk, unreserved, mem]; grind
theorem uiOk_hex (c : UInt8) (h : 0 ≤ hexv c) : uiOk c = true := by
  have : isAlpha c = true ∨ isDigit c = true := by
    unfold hexv at h
    by_cases h1 : isDigit c = true
    · exact .inr h1
    · rw [if_neg h1] at h
      left
      unfold isAlpha
      split at h
      · simp; omega
      · split at h
        · simp; omega
        · omega
  rcases this with h | h <;> simp [uiOk, h]
theorem chars_uiOk (n : Nat) (s : Bytes) (hn : s.length ≤ n) (h : chars [58] true s = true) : s.all uiOk = true := by
  induction n generalizing s with
  | zero => have : s = [] := List.eq_nil_of_length_eq_zero (by omega); rw [this]; rfl
  | succ n ih =>
    match s with
    | [] => rfl
    | c :: r =>
      by_cases hc : c = 37
      · subst hc
        match r with
        | [] => simp [chars] at h
        | [a] => simp [chars] at h
        | a :: b :: r' =>
          rw [chars_pct] at h
          simp only [Bool.true_and, Bool.and_eq_true, decide_eq_true_eq] at h
          simp only [List.length_cons] at hn
          simp only [List.all_cons, uiOk_hex a h.1.1, uiOk_hex b h.1.2, ih r' (by omega) h.2]
          decide
      · rw [chars_other _ _ _ _ (by simpa using hc)] at h
        simp only [Bool.and_eq_true] at h
        simp only [List.length_cons] at hn
        rw [List.all_cons, ih r (by omega) h.2, Bool.and_true, uiOk_eq]
        have := h.1
        simp [mem] at this ⊢
        grind
theorem vui_cons (c : UInt8) (r : Bytes) : validUserinfo (c :: r) = (uiOk c && validUserinfo r) := by simp [validUserinfo]
theorem userinfo_law (s : Bytes) : ((!chars [58] true s || validUserinfo s) && (!(!validUserinfo s) || !validUserinfo s)) = true := by
  unfold validUserinfo
  cases h : chars [58] true s
  · cases s.all uiOk <;> rfl
  · rw [chars_uiOk _ s (Nat.le_refl _) h]; rfl

theorem lastIdx_drop (c : UInt8) (s : Bytes) (i : Nat) (h : lastIdx c s = i) : s.drop i = c :: s.drop (i + 1) := by
  induction s generalizing i with
  | nil => simp [lastIdx] at h
  | cons d r ih =>
    unfold lastIdx at h
    split at h
    · obtain ⟨j, hj⟩ := Int.eq_ofNat_of_zero_le ‹0 ≤ lastIdx c r›
      obtain rfl : i = j + 1 := by omega
      simpa using ih j hj
    · split at h
      · obtain rfl : i = 0 := by omega
        rename_i hd; simp at hd; simp [hd]
      · omega
def ends (s p : Bytes) : Bool := p.isSuffixOf s
def shOk (s : Bytes) : Bool := decide (0 ≤ lastIdx 58 s) && optPort (s.drop (lastIdx 58 s).toNat)
def sh0 (s : Bytes) : Bytes := if shOk s then s.take (lastIdx 58 s).toNat else s
def shP (s : Bytes) : Bytes := if shOk s then s.drop ((lastIdx 58 s).toNat + 1) else []
def shB (h : Bytes) : Bool := begins h [91] && ends h [93]
def shH (s : Bytes) : Bytes := if shB (sh0 s) then ((sh0 s).drop 1).take ((sh0 s).length - 2) else sh0 s
def hpOk (s : Bytes) : Bool := !decide (index s [91, 93] < s.length)
def hpD (s : Bytes) : Bool := decide (0 ≤ lastIdx 58 s) && allDigits (s.drop ((lastIdx 58 s).toNat + 1))
def hpH (s : Bytes) : Bytes := if hpOk s then (if hpD s then s.take (lastIdx 58 s).toNat else s) else []
def hpP (s : Bytes) : Bytes := if hpOk s then (if hpD s then s.drop ((lastIdx 58 s).toNat + 1) else []) else []
theorem shOk_eq (s : Bytes) : shOk s = hpD s := by
  unfold shOk hpD
  by_cases h : 0 ≤ lastIdx 58 s
  · obtain ⟨i, hi⟩ := Int.eq_ofNat_of_zero_le h
    rw [hi, Int.toNat_natCast, lastIdx_drop 58 s i hi]
    simp [optPort]
  · simp [h]
theorem not_begins (s : Bytes) (h : hpOk s = true) (t : Bytes) (ht : t <+: s) : begins t [91] = false := by
  cases hb : begins t [91] with
  | false => rfl
  | true =>
    exfalso
    unfold begins at hb
    obtain ⟨r, hr⟩ := List.isPrefixOf_iff_prefix.1 hb
    obtain ⟨q, hq⟩ := ht
    have : s = 91 :: (r ++ q) := by rw [← hq, ← hr]; rfl
    unfold hpOk at h
    rw [this, index_cons] at h
    simp [mem] at h
theorem hostPort_law (s : Bytes) (h : hpOk s = true) : shH s = hpH s ∧ shP s = hpP s := by
  have hp : sh0 s <+: s := by unfold sh0; split; exact List.take_prefix _ _; exact List.prefix_refl _
  have hb : shB (sh0 s) = false := by unfold shB; rw [not_begins s h _ hp]; rfl
  constructor
  · unfold shH hpH; rw [hb, h, sh0, shOk_eq]; rfl
  · unfold shP hpP; rw [h, shOk_eq]; rfl
def tabL : Bytes := [0, 0, 0, 0, 0, 0, 0, 0, 0, 0, 0, 0, 0, 0, 0, 0, 0, 0, 0, 0, 0, 0, 0, 0, 0, 0, 0, 0, 0, 0, 0, 0, 0, 76, 12, 0, 95, 0, 95, 12, 76, 76, 76, 95, 93, 127, 127, 65, 255, 255, 255, 255, 255, 255, 255, 255, 255, 255, 79, 93, 12, 95, 12, 64, 67, 255, 255, 255, 255, 255, 255, 127, 127, 127, 127, 127, 127, 127, 127, 127, 127, 127, 127, 127, 127, 127, 127, 127, 127, 127, 127, 12, 0, 12, 0, 127, 0, 255, 255, 255, 255, 255, 255, 127, 127, 127, 127, 127, 127, 127, 127, 127, 127, 127, 127, 127, 127, 127, 127, 127, 127, 127, 127, 0, 0, 0, 127, 0, 0, 0, 0, 0, 0, 0, 0, 0, 0, 0, 0, 0, 0, 0, 0, 0, 0, 0, 0, 0, 0, 0, 0, 0, 0, 0, 0, 0, 0, 0, 0, 0, 0, 0, 0, 0, 0, 0, 0, 0, 0, 0, 0, 0, 0, 0, 0, 0, 0, 0, 0, 0, 0, 0, 0, 0, 0, 0, 0, 0, 0, 0, 0, 0, 0, 0, 0, 0, 0, 0, 0, 0, 0, 0, 0, 0, 0, 0, 0, 0, 0, 0, 0, 0, 0, 0, 0, 0, 0, 0, 0, 0, 0, 0, 0, 0, 0, 0, 0, 0, 0, 0, 0, 0, 0, 0, 0, 0, 0, 0, 0, 0, 0, 0, 0, 0, 0, 0, 0, 0, 0, 0, 0, 0, 0, 0, 0, 0]
def tab (c : UInt8) : UInt8 := tabL.getD c.toNat 0
theorem all_u8 (p : UInt8 → Bool) (h : ∀ n : Fin 256, p (UInt8.ofNat n.val) = true) (c : UInt8) : p c = true := by
  have := h ⟨c.toNat, c.toNat_lt⟩
  simpa using this
theorem tab_hex (c : UInt8) : (tab c &&& 128 != 0) = decide (0 ≤ hexv c) := by
  have := all_u8 (fun c => (tab c &&& 128 != 0) == decide (0 ≤ hexv c)) (by decide +kernel) c
  simpa using this
/-- What shouldEscape answers. -/
def should (m c : UInt8) : Bool := tab c &&& m == 0
theorem should_query (c : UInt8) : should 32 c = !unreserved c := by
  have := all_u8 (fun c => should 32 c == !unreserved c) (by decide +kernel) c
  simpa using this
def unhex (c : UInt8) : UInt8 := (9 : UInt8) * (c >>> (6 : UInt8)) + (c &&& (15 : UInt8))
def hex2 (a b : UInt8) : UInt8 := UInt8.ofNat ((hexv a).toNat * 16 + (hexv b).toNat)
theorem unhex_eq (c : UInt8) (h : 0 ≤ hexv c) : ((unhex c).toNat : Int) = hexv c := by
  have := all_u8 (fun c => decide (0 ≤ hexv c → ((unhex c).toNat : Int) = hexv c)) (by decide +kernel) c
  exact (of_decide_eq_true this) h
theorem unhex_nat (c : UInt8) : ((unhex c).toNat : Int) = 9 * ((c.toNat : Int) / 64) + (c.toNat : Int) % 16 := by
  have := all_u8 (fun c => decide (((unhex c).toNat : Int) = 9 * ((c.toNat : Int) / 64) + (c.toNat : Int) % 16)) (by decide +kernel) c
  exact of_decide_eq_true this
theorem unhex_hex2 (a b : UInt8) (ha : 0 ≤ hexv a) (hb : 0 ≤ hexv b) : (unhex a <<< 4 ||| unhex b) = hex2 a b := by
  have e1 := unhex_eq a ha
  have e2 := unhex_eq b hb
  have h1 := hexv_hi a
  have h2 := hexv_hi b
  have k1 : unhex a = UInt8.ofNat (hexv a).toNat := by rw [← e1]; simp
  have k2 : unhex b = UInt8.ofNat (hexv b).toNat := by rw [← e2]; simp
  rw [k1, k2, hex2]
  have all : ∀ x y : Fin 16, (UInt8.ofNat x.val <<< 4 ||| UInt8.ofNat y.val) = UInt8.ofNat (x.val * 16 + y.val) := by decide +kernel
  exact all ⟨(hexv a).toNat, by omega⟩ ⟨(hexv b).toNat, by omega⟩

theorem hex2_nat (a b : UInt8) (ha : 0 ≤ hexv a) (hb : 0 ≤ hexv b) : ((hex2 a b).toNat : Int) = hexv a * 16 + hexv b := by
  have h1 := hexv_hi a
  have h2 := hexv_hi b
  unfold hex2
  have e : (UInt8.ofNat ((hexv a).toNat * 16 + (hexv b).toNat)).toNat = (hexv a).toNat * 16 + (hexv b).toNat := by
    rw [UInt8.toNat_ofNat']; omega
  rw [e]; omega

/-- Decoding; q: plus signs become blanks. -/
def dec (q : Bool) : Bytes → Option Bytes
  | [] => some []
  | c :: r =>
    if c = 37 then
      match r with
      | a :: b :: r' => if 0 ≤ hexv a ∧ 0 ≤ hexv b then (dec q r').map (hex2 a b :: ·) else none
      | _ => none
    else (dec q r).map ((if q && c == 43 then 32 else c) :: ·)
def plus (s : Bytes) : Bytes := s.map (fun c => if c == 43 then 32 else c)
theorem dec_pct (q : Bool) (a b : UInt8) (r : Bytes) : dec q (37 :: a :: b :: r) = if 0 ≤ hexv a ∧ 0 ≤ hexv b then (dec q r).map (hex2 a b :: ·) else none := by simp [dec]
theorem dec_short (q : Bool) (r : Bytes) (h : r.length < 2) : dec q (37 :: r) = none := by
  match r, h with
  | [], _ => simp [dec]
  | [a], _ => simp [dec]
theorem dec_other (q : Bool) (c : UInt8) (r : Bytes) (h : c ≠ 37) : dec q (c :: r) = (dec q r).map ((if q && c == 43 then 32 else c) :: ·) := by
  rw [dec.eq_def]; exact if_neg h
theorem hexv_plus (c : UInt8) : (0 ≤ hexv (if c == 43 then 32 else c)) = (0 ≤ hexv c) := by
  by_cases h : c = 43
  · subst h; simp; decide
  · simp [h]
theorem hexv_plus' (c : UInt8) (h : 0 ≤ hexv c) : (if c == 43 then 32 else c) = c := by
  by_cases h' : c = 43
  · subst h'; exact absurd h (by decide)
  · simp [h']
theorem dec_plus (n : Nat) (s : Bytes) (hn : s.length ≤ n) : dec false (plus s) = dec true s := by
  induction n generalizing s with
  | zero => have : s = [] := List.eq_nil_of_length_eq_zero (by omega); rw [this]; rfl
  | succ n ih =>
    match s with
    | [] => rfl
    | c :: r =>
      simp only [List.length_cons] at hn
      by_cases hc : c = 37
      · subst hc
        match r with
        | [] => rw [show plus [37] = [37] from rfl, dec_short _ _ (by simp), dec_short _ _ (by simp)]
        | [a] => rw [show plus [37, a] = 37 :: [if a == 43 then 32 else a] from rfl, dec_short _ _ (by simp), dec_short _ _ (by simp)]
        | a :: b :: r' =>
          rw [show plus (37 :: a :: b :: r') = 37 :: (if a == 43 then 32 else a) :: (if b == 43 then 32 else b) :: plus r' from rfl, dec_pct, dec_pct]
          simp only [hexv_plus]
          simp only [List.length_cons] at hn
          split
          · rename_i h; rw [hexv_plus' a h.1, hexv_plus' b h.2, ih r' (by omega)]
          · rfl
      · rw [show plus (c :: r) = (if c == 43 then 32 else c) :: plus r from rfl, dec_other true c r hc, dec_other false _ _ (by split; decide; exact hc), ih r (by omega)]
        simp
def hexd : Bytes := [48, 49, 50, 51, 52, 53, 54, 55, 56, 57, 65, 66, 67, 68, 69, 70]
def hexU (n : UInt8) : UInt8 := hexd.getD n.toNat 0
/-- A blank of a query. -/
def blank (m c : UInt8) : Bool := c == 32 && m == 32
def esc1 (m c : UInt8) : Bytes := if blank m c then [43] else if should m c then [37, hexU (c >>> 4), hexU (c &&& 15)] else [c]
def esc (m : UInt8) : Bytes → Bytes
  | [] => []
  | c :: r => esc1 m c ++ esc m r
def hexN (m : UInt8) : Bytes → Nat
  | [] => 0
  | c :: r => (if should m c && !blank m c then 1 else 0) + hexN m r
def spN (m : UInt8) : Bytes → Nat
  | [] => 0
  | c :: r => (if should m c && blank m c then 1 else 0) + spN m r
theorem esc_app (m : UInt8) (a b : Bytes) : esc m (a ++ b) = esc m a ++ esc m b := by
  induction a with
  | nil => rfl
  | cons c r ih => simp only [List.cons_append, esc, ih, List.append_assoc]
theorem should_blank (m c : UInt8) (h : blank m c = true) : should m c = true := by
  simp [blank] at h
  obtain ⟨rfl, rfl⟩ := h
  decide +kernel
theorem esc_length (m : UInt8) (s : Bytes) : (esc m s).length = s.length + 2 * hexN m s := by
  induction s with
  | nil => rfl
  | cons c r ih =>
    simp only [esc, hexN, List.length_append, ih, List.length_cons, esc1]
    by_cases hb : blank m c = true
    · simp [hb]; omega
    · by_cases hs : should m c = true
      · simp [hb, hs]; omega
      · simp [hb, hs]; omega
theorem hexN_le (m : UInt8) (s : Bytes) : hexN m s ≤ s.length := by
  induction s with
  | nil => simp [hexN]
  | cons c r ih => simp only [hexN, List.length_cons]; split <;> omega
theorem spN_le (m : UInt8) (s : Bytes) : spN m s ≤ s.length := by
  induction s with
  | nil => simp [spN]
  | cons c r ih => simp only [spN, List.length_cons]; split <;> omega
theorem esc_same (m : UInt8) (s : Bytes) (h : spN m s = 0) (h' : hexN m s = 0) : esc m s = s := by
  induction s with
  | nil => rfl
  | cons c r ih =>
    simp only [spN, hexN] at h h'
    rw [esc, ih (by omega) (by omega), esc1]
    have hs : should m c = false := by
      cases hs : should m c with
      | false => rfl
      | true =>
        cases hb : blank m c with
        | false => simp [hs, hb] at h'
        | true => simp [hs, hb] at h
    have hb : ¬ blank m c = true := fun hb => by rw [should_blank m c hb] at hs; cases hs
    rw [if_neg hb, hs]; rfl
def sp43 (c : UInt8) : UInt8 := if c == 32 then 43 else c
theorem spN_query (m : UInt8) (s : Bytes) (h : spN m s ≠ 0) : m = 32 := by
  induction s with
  | nil => exact absurd rfl h
  | cons c r ih =>
    by_cases hr : spN m r = 0
    · simp only [spN, hr] at h
      cases hb : blank m c with
      | false => simp [hb] at h
      | true => simp [blank] at hb; exact hb.2
    · exact ih hr
theorem esc_blank (s : Bytes) (h : hexN 32 s = 0) : esc 32 s = s.map sp43 := by
  induction s with
  | nil => rfl
  | cons c r ih =>
    simp only [hexN] at h
    rw [esc, ih (by omega), List.map_cons, esc1, sp43]
    cases hb : (c == 32) with
    | true => simp [blank, hb]
    | false =>
      have hs : should 32 c = false := by
        cases hs : should 32 c with
        | false => rfl
        | true => simp [hs, blank, hb] at h
      simp [blank, hb, hs]
theorem hexU_toNat (c : UInt8) (hb : c.toNat < 16) : hexd[c.toNat]'(by simp [hexd]; omega) = hexU c := by
  have := all_u8 (fun c => if h : c.toNat < 16 then decide (hexd[c.toNat]'(by simp [hexd]; omega) = hexU c) else true) (by decide +kernel) c
  rw [dif_pos hb] at this
  exact of_decide_eq_true this
theorem shr4_lt (c : UInt8) : (c >>> 4).toNat < 16 := by
  have := all_u8 (fun c => decide ((c >>> 4).toNat < 16)) (by decide +kernel) c
  exact of_decide_eq_true this
theorem and15_lt (c : UInt8) : (c &&& 15).toNat < 16 := by
  have := all_u8 (fun c => decide ((c &&& 15).toNat < 16)) (by decide +kernel) c
  exact of_decide_eq_true this
theorem shr4_nat (c : UInt8) : (c >>> 4).toNat = c.toNat / 16 := by
  have := all_u8 (fun c => decide ((c >>> 4).toNat = c.toNat / 16)) (by decide +kernel) c
  exact of_decide_eq_true this
theorem and15_nat (c : UInt8) : (c &&& 15).toNat = c.toNat % 16 := by
  have := all_u8 (fun c => decide ((c &&& 15).toNat = c.toNat % 16)) (by decide +kernel) c
  exact of_decide_eq_true this
/-- One byte in escaped form decodes to itself: its two digits. -/
theorem hex2_hexU (c : UInt8) : (0 : Int) ≤ hexv (hexU (c >>> 4)) ∧ (0 : Int) ≤ hexv (hexU (c &&& 15)) ∧ hex2 (hexU (c >>> 4)) (hexU (c &&& 15)) = c := by
  have := all_u8 (fun c => decide ((0 : Int) ≤ hexv (hexU (c >>> 4)) ∧ (0 : Int) ≤ hexv (hexU (c &&& 15)) ∧ hex2 (hexU (c >>> 4)) (hexU (c &&& 15)) = c)) (by decide +kernel) c
  exact of_decide_eq_true this
theorem should_pct (m : UInt8) (h : m = 1 ∨ m = 2 ∨ m = 4 ∨ m = 8 ∨ m = 16 ∨ m = 32 ∨ m = 64) : should m 37 = true := by
  rcases h with rfl | rfl | rfl | rfl | rfl | rfl | rfl <;> decide +kernel
/-- What is escaped decodes to itself. -/
theorem dec_esc (q : Bool) (m : UInt8) (s : Bytes) (hp : should m 37 = true) (hq : q = (m == 32)) (h43 : q = true → should m 43 = true) : dec q (esc m s) = some s := by
  induction s with
  | nil => rfl
  | cons c r ih =>
    rw [esc, esc1]
    by_cases hb : blank m c = true
    · rw [if_pos hb, List.singleton_append, dec_other _ _ _ (by decide), ih]
      simp [blank] at hb
      obtain ⟨rfl, rfl⟩ := hb
      rw [hq]; rfl
    · rw [if_neg hb]
      by_cases hs : should m c = true
      · rw [if_pos hs]
        have h := hex2_hexU c
        rw [List.cons_append, List.cons_append, List.cons_append, List.nil_append, dec_pct, if_pos ⟨h.1, h.2.1⟩, ih, h.2.2]; rfl
      · rw [if_neg hs, List.singleton_append, dec_other _ _ _ (fun e => hs (by rw [e]; exact hp)), ih]
        cases q with
        | false => rfl
        | true =>
          have : ¬ c = 43 := fun e => hs (by rw [e]; exact h43 rfl)
          simp [this]
/-- A text in pieces, parted at slashes. -/
def segs : Bytes → List Bytes
  | [] => [[]]
  | c :: r => if c = 47 then [] :: segs r else (c :: (segs r).headD []) :: (segs r).tail
theorem segs_ne (s : Bytes) : segs s ≠ [] := by cases s with
  | nil => simp [segs]
  | cons c r => simp only [segs]; split <;> simp
def noSl (s : Bytes) : Prop := ∀ c ∈ s, c ≠ 47
theorem noSl_nil : noSl [] := fun c hc => by cases hc
theorem segs_app (a r : Bytes) (h : noSl a) : segs (a ++ 47 :: r) = a :: segs r := by
  induction a with
  | nil => simp [segs]
  | cons c a ih =>
    have hc : c ≠ 47 := h c (by simp)
    rw [List.cons_append, segs, if_neg hc, ih (fun d hd => h d (by simp [hd]))]; rfl
theorem segs_one (a : Bytes) (h : noSl a) : segs a = [a] := by
  induction a with
  | nil => simp [segs]
  | cons c a ih =>
    have hc : c ≠ 47 := h c (by simp)
    rw [segs, if_neg hc, ih (fun d hd => h d (by simp [hd]))]; rfl
theorem segs_noSl (s : Bytes) : ∀ e ∈ segs s, noSl e := by
  induction s with
  | nil => intro e he; simp [segs] at he; subst he; intro c hc; cases hc
  | cons c r ih =>
    intro e he
    rw [segs] at he
    split at he
    · rcases List.mem_cons.1 he with rfl | he
      · intro c hc; cases hc
      · exact ih e he
    · rename_i hc
      rcases List.mem_cons.1 he with rfl | he
      · intro d hd
        rcases List.mem_cons.1 hd with rfl | hd
        · exact hc
        · refine ih ((segs r).headD []) ?_ d hd
          cases hs : segs r with
          | nil => exact absurd hs (segs_ne r)
          | cons a b => simp
      · exact ih e (List.mem_of_mem_tail he)
/-- What stands ahead of the first slash, and behind it. -/
theorem segs_part (s : Bytes) : noSl s ∧ segs s = [s] ∨ ∃ a r, noSl a ∧ s = a ++ 47 :: r ∧ segs s = a :: segs r := by
  induction s with
  | nil => left; exact ⟨noSl_nil, rfl⟩
  | cons c s ih =>
    by_cases hc : c = 47
    · right; exact ⟨[], s, noSl_nil, by rw [hc]; rfl, by rw [hc, segs, if_pos rfl]⟩
    · rcases ih with ⟨h, _⟩ | ⟨a, r, h, rfl, _⟩
      · left
        have : noSl (c :: s) := fun d hd => by
          rcases List.mem_cons.1 hd with rfl | hd
          · exact hc
          · exact h d hd
        exact ⟨this, segs_one _ this⟩
      · right
        have : noSl (c :: a) := fun d hd => by
          rcases List.mem_cons.1 hd with rfl | hd
          · exact hc
          · exact h d hd
        exact ⟨c :: a, r, this, rfl, segs_app (c :: a) r this⟩
theorem fsub_noSl (s : Bytes) (h : noSl s) : fsub [47] s = -1 := by
  induction s with
  | nil => rfl
  | cons c s ih =>
    have hc : (c == 47) = false := by simpa using h c (by simp)
    rw [fsub_one_cons, ih (fun d hd => h d (by simp [hd])), hc]; rfl
theorem fsub_app (a r : Bytes) (h : noSl a) : fsub [47] (a ++ 47 :: r) = a.length := by
  induction a with
  | nil => rw [List.nil_append, fsub_one_cons]; rfl
  | cons c a ih =>
    have hc : (c == 47) = false := by simpa using h c (by simp)
    rw [List.cons_append, fsub_one_cons, ih (fun d hd => h d (by simp [hd])), hc]
    simp; omega
theorem cut_noSl (s : Bytes) (h : noSl s) : cutB [47] s = s ∧ cutF [47] s = false := by
  unfold cutB cutF; rw [fsub_noSl s h]; simp
theorem cut_app (a r : Bytes) (h : noSl a) : cutB [47] (a ++ 47 :: r) = a ∧ cutA [47] (a ++ 47 :: r) = r ∧ cutF [47] (a ++ 47 :: r) = true := by
  unfold cutB cutA cutF; rw [fsub_app a r h]
  refine ⟨?_, ?_, ?_⟩
  · rw [if_neg (by omega)]; simp
  · rw [if_neg (by omega)]; simp
  · simp

/-- One piece of the package's way: what has been written, and whether a slash is left out. -/
def rpPop (d : Bytes) : Bytes := if 0 ≤ lastIdx 47 (d.drop 1) then d.take ((lastIdx 47 (d.drop 1)).toNat + 1) else d.take 1
def rpStep (d : Bytes) (f : Bool) (e : Bytes) : Bytes × Bool :=
  if e = [46] then (d, false) else if e = [46, 46] then (rpPop d, decide ((rpPop d).length = 1)) else ((if f then d else d ++ [47]) ++ e, false)
def dots (e : Bytes) : Bool := e == [46] || e == [46, 46]
def rpRun : List Bytes → Bytes → Bool → Bytes
  | [], d, _ => d
  | [e], d, f => if dots e then (rpStep d f e).1 ++ [47] else (rpStep d f e).1
  | e :: r, d, f => rpRun r (rpStep d f e).1 (rpStep d f e).2
def rpFin (d : Bytes) : Bytes := if (d.drop 1).head? = some 47 then d.drop 1 else d
theorem rpRun_one (e d : Bytes) (f : Bool) : rpRun [e] d f = if dots e then (rpStep d f e).1 ++ [47] else (rpStep d f e).1 := rfl
theorem rpRun_cons (e d : Bytes) (r : List Bytes) (f : Bool) (h : r ≠ []) : rpRun (e :: r) d f = rpRun r (rpStep d f e).1 (rpStep d f e).2 := by
  cases r with
  | nil => exact absurd rfl h
  | cons a b => rfl
/-- The package's way. -/
def rpFull (base ref : Bytes) : Bytes :=
  match ref with
  | [] => base
  | c :: r => if c = 47 then c :: r else base.take ((lastIdx 47 base + 1).toNat) ++ (c :: r)
def resolvePath (base ref : Bytes) : Bytes := if rpFull base ref = [] then [] else rpFin (rpRun (segs (rpFull base ref)) [47] true)

/-- The reference's way: one step. -/
def rdDrop (o : Bytes) : Bytes := o.take (lastIdx 47 o).toNat
def rdStep (i o : Bytes) : Bytes × Bytes :=
  if begins i [46, 46, 47] then (i.drop 3, o)
  else if begins i [46, 47] then (i.drop 2, o)
  else if begins i [47, 46, 47] then (i.drop 2, o)
  else if i = [47, 46] then ([47], o)
  else if begins i [47, 46, 46, 47] then (i.drop 3, rdDrop o)
  else if i = [47, 46, 46] then ([47], rdDrop o)
  else if i = [46] ∨ i = [46, 46] then ([], o)
  else (i.drop (1 + index (i.drop 1) [47]), o ++ i.take (1 + index (i.drop 1) [47]))
def rd : Nat → Bytes → Bytes → Bytes
  | 0, _, o => o
  | n + 1, i, o => if i = [] then o else rd n (rdStep i o).1 (rdStep i o).2
def removeDots (s : Bytes) : Bytes := rd (s.length + 1) s []
def rdSeg : List Bytes → Bytes → Bytes
  | [], o => o
  | [e], o => if e = [46] then o ++ [47] else if e = [46, 46] then rdDrop o ++ [47] else o ++ 47 :: e
  | e :: r, o => rdSeg r (if e = [46] then o else if e = [46, 46] then rdDrop o else o ++ 47 :: e)
theorem rdSeg_cons (e o : Bytes) (r : List Bytes) (h : r ≠ []) : rdSeg (e :: r) o = rdSeg r (if e = [46] then o else if e = [46, 46] then rdDrop o else o ++ 47 :: e) := by
  cases r with
  | nil => exact absurd rfl h
  | cons a b => rfl
theorem index_noSl (s : Bytes) (h : noSl s) : index s [47] = s.length := by
  induction s with
  | nil => rfl
  | cons c s ih =>
    have hc : c ≠ 47 := h c (by simp)
    rw [index_cons, ih (fun d hd => h d (by simp [hd]))]
    simp [mem, hc]
theorem index_app47 (a r : Bytes) (h : noSl a) : index (a ++ 47 :: r) [47] = a.length := by
  induction a with
  | nil => rw [List.nil_append, index_cons]; rfl
  | cons c s ih =>
    have hc : c ≠ 47 := h c (by simp)
    rw [List.cons_append, index_cons, ih (fun d hd => h d (by simp [hd]))]
    simp [mem, hc]
theorem rd_one (n : Nat) (o : Bytes) : rd (n + 2) [47] o = o ++ [47] := by
  rw [rd, if_neg (by simp)]
  have : rdStep [47] o = ([], o ++ [47]) := by simp [rdStep, begins, index]
  rw [this, rd, if_pos rfl]
/-- A first piece that is no dots, in the reference's step. -/
theorem rdStep_other (x a o : Bytes) (hx : x = a ∨ ∃ r, x = a ++ 47 :: r) (ha : noSl a) (h1 : a ≠ [46]) (h2 : a ≠ [46, 46]) :
    rdStep (47 :: x) o = (x.drop a.length, o ++ 47 :: a) := by
  have hi : index x [47] = a.length := by
    rcases hx with rfl | ⟨r, rfl⟩
    · exact index_noSl _ ha
    · exact index_app47 _ _ ha
  have ht : x.take a.length = a := by
    rcases hx with rfl | ⟨r, rfl⟩
    · simp
    · simp
  have e1 : begins (47 :: x) [47, 46, 47] = false := by
    cases hb : begins (47 :: x) [47, 46, 47] with
    | false => rfl
    | true =>
      exfalso
      simp only [begins, List.isPrefixOf_cons_cons, Bool.and_eq_true] at hb
      obtain ⟨z, hz⟩ := List.isPrefixOf_iff_prefix.1 hb.2
      rcases hx with rfl | ⟨r, rfl⟩
      · exact ha 47 (by rw [← hz]; simp) rfl
      · match a, ha, h1, hz with
        | [], _, _, hz => simp at hz
        | [c], ha, h1, hz => simp at hz; exact h1 (by rw [← hz.1])
        | c :: d :: t, ha, h1, hz => simp at hz; exact ha d (by simp) hz.2.1.symm
  have e2 : begins (47 :: x) [47, 46, 46, 47] = false := by
    cases hb : begins (47 :: x) [47, 46, 46, 47] with
    | false => rfl
    | true =>
      exfalso
      simp only [begins, List.isPrefixOf_cons_cons, Bool.and_eq_true] at hb
      obtain ⟨z, hz⟩ := List.isPrefixOf_iff_prefix.1 hb.2
      rcases hx with rfl | ⟨r, rfl⟩
      · exact ha 47 (by rw [← hz]; simp) rfl
      · match a, ha, h2, hz with
        | [], _, _, hz => simp at hz
        | [c], ha, h2, hz => simp at hz
        | [c, d], ha, h2, hz => simp at hz; exact h2 (by rw [← hz.1, ← hz.2.1])
        | c :: d :: e :: t, ha, h2, hz => simp at hz; exact ha e (by simp) hz.2.2.1.symm
  have e3 : ¬ (47 :: x) = [47, 46] := by
    intro h
    have hx1 : x = [46] := by simpa using h
    rcases hx with rfl | ⟨r, rfl⟩
    · exact h1 hx1
    · match a, hx1 with
      | [], hx1 => simp at hx1
      | c :: t, hx1 => simp at hx1
  have e4 : ¬ (47 :: x) = [47, 46, 46] := by
    intro h
    have hx1 : x = [46, 46] := by simpa using h
    rcases hx with rfl | ⟨r, rfl⟩
    · exact h2 hx1
    · match a, hx1 with
      | [], hx1 => simp at hx1
      | [c], hx1 => simp at hx1
      | c :: d :: t, hx1 => simp at hx1
  rw [rdStep, if_neg (by simp [begins]), if_neg (by simp [begins]), if_neg (by rw [e1]; simp), if_neg e3, if_neg (by rw [e2]; simp), if_neg e4, if_neg (by simp)]
  simp only [List.drop_one, List.tail_cons]
  rw [hi, show 1 + a.length = a.length + 1 by omega, List.drop_succ_cons, List.take_succ_cons, ht]
theorem rd_segs (n : Nat) (x o : Bytes) (hn : x.length ≤ n) : rd (n + 2) (47 :: x) o = rdSeg (segs x) o := by
  induction n using Nat.strongRecOn generalizing x o with
  | ind n ih =>
    rcases segs_part x with ⟨h, hs⟩ | ⟨a, r, h, rfl, hs⟩
    · rw [hs, rdSeg]
      by_cases h1 : x = [46]
      · subst h1
        simp at hn
        obtain ⟨m, rfl⟩ : ∃ m, n = m + 1 := ⟨n - 1, by omega⟩
        rw [if_pos rfl, rd, if_neg (by simp)]
        have : rdStep [47, 46] o = ([47], o) := by simp [rdStep, begins]
        rw [this, rd_one]
      · rw [if_neg h1]
        by_cases h2 : x = [46, 46]
        · subst h2
          simp at hn
          obtain ⟨m, rfl⟩ : ∃ m, n = m + 1 := ⟨n - 1, by omega⟩
          rw [if_pos rfl, rd, if_neg (by simp)]
          have : rdStep [47, 46, 46] o = ([47], rdDrop o) := by simp [rdStep, begins]
          rw [this, rd_one]
        · rw [if_neg h2, rd, if_neg (by simp), rdStep_other x x o (.inl rfl) h h1 h2]
          simp only [List.drop_length]
          rw [rd, if_pos rfl]
    · rw [hs, rdSeg_cons _ _ _ (segs_ne r)]
      simp only [List.length_append, List.length_cons] at hn
      by_cases h1 : a = [46]
      · subst h1
        simp at hn
        obtain ⟨m, rfl⟩ : ∃ m, n = m + 1 := ⟨n - 1, by omega⟩
        rw [if_pos rfl, rd, if_neg (by simp)]
        have : rdStep (47 :: ([46] ++ 47 :: r)) o = (47 :: r, o) := by simp [rdStep, begins]
        rw [this]
        exact ih m (by omega) r o (by omega)
      · rw [if_neg h1]
        by_cases h2 : a = [46, 46]
        · subst h2
          simp at hn
          obtain ⟨m, rfl⟩ : ∃ m, n = m + 1 := ⟨n - 1, by omega⟩
          rw [if_pos rfl, rd, if_neg (by simp)]
          have : rdStep (47 :: ([46, 46] ++ 47 :: r)) o = (47 :: r, rdDrop o) := by simp [rdStep, begins]
          rw [this]
          exact ih m (by omega) r _ (by omega)
        · obtain ⟨m, rfl⟩ : ∃ m, n = m + 1 := ⟨n - 1, by omega⟩
          rw [if_neg h2, rd, if_neg (by simp), rdStep_other _ a o (.inr ⟨r, rfl⟩) h h1 h2]
          simp only [List.drop_left]
          exact ih m (by omega) r _ (by omega)

def join (l : List Bytes) : Bytes := l.flatMap (47 :: ·)
theorem join_app (a b : List Bytes) : join (a ++ b) = join a ++ join b := by simp [join]
theorem join_one (e : Bytes) : join [e] = 47 :: e := by simp [join]
theorem lastIdx_noSl (a e : Bytes) (h : noSl e) : lastIdx 47 (a ++ 47 :: e) = a.length := by
  induction a with
  | nil =>
    rw [List.nil_append, lastIdx]
    have : lastIdx 47 e = -1 := by
      induction e with
      | nil => rfl
      | cons c r ih =>
        rw [lastIdx, ih (fun d hd => h d (by simp [hd]))]
        have : (c == 47) = false := by simpa using h c (by simp)
        rw [this]; rfl
    rw [this]; rfl
  | cons c a ih => rw [List.cons_append, lastIdx, ih, if_pos (by omega)]; simp
theorem lastIdx_none (e : Bytes) (h : noSl e) : lastIdx 47 e = -1 := by
  induction e with
  | nil => rfl
  | cons c r ih =>
    rw [lastIdx, ih (fun d hd => h d (by simp [hd]))]
    have : (c == 47) = false := by simpa using h c (by simp)
    rw [this]; rfl
theorem rdDrop_app (l : List Bytes) (e : Bytes) (h : noSl e) : rdDrop (join (l ++ [e])) = join l := by
  rw [rdDrop, join_app, join_one, lastIdx_noSl _ _ h]; simp
theorem rdDrop_nil : rdDrop [] = [] := rfl
theorem snoc_cases (T : List Bytes) : T = [] ∨ ∃ T' e, T = T' ++ [e] := by
  rcases List.eq_nil_or_concat T with h | ⟨a, b, h⟩
  · exact .inl h
  · exact .inr ⟨a, b, by simpa using h⟩
/-- The two ways side by side: empty pieces that the package has forgotten, and the pieces that both have. -/
def Sim (d : Bytes) (f : Bool) (o : Bytes) : Prop :=
  ∃ (Z : Nat) (T : List Bytes), (∀ e ∈ T, noSl e) ∧ o = join (List.replicate Z [] ++ T) ∧
    ((f = false ∧ d = 47 :: join T) ∨ (f = false ∧ (∃ t T', T = t :: T' ∧ t ≠ []) ∧ d = join T) ∨ (f = true ∧ T = [] ∧ d = [47]))
theorem rep_snoc (Z : Nat) : List.replicate (Z + 1) ([] : Bytes) = List.replicate Z [] ++ [[]] := by
  rw [List.replicate_succ']
theorem drop_rep (Z : Nat) : rdDrop (join (List.replicate Z [])) = join (List.replicate (Z - 1) []) := by
  cases Z with
  | zero => rfl
  | succ Z => rw [rep_snoc, rdDrop_app _ _ noSl_nil]; rfl
theorem sim_pop (d : Bytes) (f : Bool) (o : Bytes) (h : Sim d f o) : Sim (rpPop d) (decide ((rpPop d).length = 1)) (rdDrop o) := by
  obtain ⟨Z, T, hT, rfl, h⟩ := h
  have h0 : rpPop [47] = [47] := rfl
  rcases h with ⟨rfl, rfl⟩ | ⟨rfl, ⟨t, T', rfl, ht⟩, rfl⟩ | ⟨rfl, rfl, rfl⟩
  · rcases snoc_cases T with rfl | ⟨T', e, rfl⟩
    · refine ⟨Z - 1, [], by simp, by rw [List.append_nil, drop_rep]; simp, .inr (.inr ⟨?_, rfl, ?_⟩)⟩
      · rw [show join [] = [] from rfl, h0]; rfl
      · rw [show join [] = [] from rfl, h0]
    · have he : noSl e := hT e (by simp)
      have hp : rpPop (47 :: join (T' ++ [e])) = 47 :: join T' := by
        rw [rpPop, List.drop_one, List.tail_cons, join_app, join_one, lastIdx_noSl _ _ he, if_pos (by omega)]; simp
      rw [hp]
      refine ⟨Z, T', fun x hx => hT x (by simp [hx]), by rw [← List.append_assoc, rdDrop_app _ _ he], ?_⟩
      by_cases hn : T' = []
      · subst hn; exact .inr (.inr ⟨rfl, rfl, rfl⟩)
      · refine .inl ⟨?_, rfl⟩
        cases T' with
        | nil => exact absurd rfl hn
        | cons a b => simp [join]
  · have hn : noSl t := hT t (by simp)
    rcases snoc_cases T' with rfl | ⟨T2, e, rfl⟩
    · have hp : rpPop (join [t]) = [47] := by
        rw [rpPop, join_one, List.drop_one, List.tail_cons, lastIdx_none _ hn, if_neg (by omega)]; rfl
      rw [hp]
      exact ⟨Z, [], by simp, by rw [rdDrop_app _ _ hn]; simp, .inr (.inr ⟨rfl, rfl, rfl⟩)⟩
    · have he : noSl e := hT e (by simp)
      have hp : rpPop (join (t :: (T2 ++ [e]))) = join (t :: T2) := by
        have e1 : join (t :: (T2 ++ [e])) = 47 :: (t ++ join T2 ++ 47 :: e) := by simp [join]
        have e2 : join (t :: T2) = 47 :: (t ++ join T2) := by simp [join]
        rw [e1, e2, rpPop, List.drop_one, List.tail_cons, lastIdx_noSl _ _ he, if_pos (by omega), Int.toNat_natCast, List.take_succ_cons, List.take_left]
      rw [hp]
      refine ⟨Z, t :: T2, fun x hx => hT x (by simp at hx ⊢; rcases hx with rfl | hx; exact .inl rfl; exact .inr (.inl hx)), ?_, .inr (.inl ⟨?_, ⟨t, T2, rfl, ht⟩, rfl⟩)⟩
      · rw [show List.replicate Z [] ++ t :: (T2 ++ [e]) = (List.replicate Z [] ++ t :: T2) ++ [e] by simp, rdDrop_app _ _ he]
      · cases t with
        | nil => exact absurd rfl ht
        | cons a b => simp [join]
  · rw [h0]
    exact ⟨Z - 1, [], by simp, by rw [List.append_nil, drop_rep]; simp, .inr (.inr ⟨rfl, rfl, rfl⟩)⟩
theorem sim_push (d : Bytes) (f : Bool) (o e : Bytes) (he : noSl e) (h : Sim d f o) : Sim ((if f then d else d ++ [47]) ++ e) false (o ++ 47 :: e) := by
  obtain ⟨Z, T, hT, rfl, h⟩ := h
  have hT' : ∀ x ∈ T ++ [e], noSl x := by
    intro x hx
    rcases List.mem_append.1 hx with hx | hx
    · exact hT x hx
    · simp at hx; subst hx; exact he
  have ho : join (List.replicate Z [] ++ T) ++ 47 :: e = join (List.replicate Z [] ++ (T ++ [e])) := by simp [join]
  rcases h with ⟨rfl, rfl⟩ | ⟨rfl, ⟨t, T', rfl, ht⟩, rfl⟩ | ⟨rfl, rfl, rfl⟩
  · exact ⟨Z, T ++ [e], hT', ho, .inl ⟨rfl, by simp [join]⟩⟩
  · exact ⟨Z, t :: T' ++ [e], hT', ho, .inr (.inl ⟨rfl, ⟨t, T' ++ [e], rfl, ht⟩, by simp [join]⟩)⟩
  · by_cases hn : e = []
    · subst hn
      exact ⟨Z + 1, [], by simp, by rw [rep_snoc]; simp [join], .inl ⟨rfl, rfl⟩⟩
    · exact ⟨Z, [e], by simpa using hT', by simpa using ho, .inr (.inl ⟨rfl, ⟨e, [], rfl, hn⟩, by simp [join]⟩)⟩
def two (s : Bytes) : Prop := (s.drop 1).head? = some 47
theorem join_head (T : List Bytes) (h : T ≠ []) : (join T).head? = some 47 := by
  cases T with
  | nil => exact absurd rfl h
  | cons a b => simp [join]
theorem two_rep (Z : Nat) (T : List Bytes) (h : T ≠ []) : two (join (List.replicate (Z + 1) [] ++ T)) := by
  unfold two
  rw [List.replicate_succ, List.cons_append]
  have : join ([] :: (List.replicate Z [] ++ T)) = 47 :: join (List.replicate Z [] ++ T) := by simp [join]
  rw [this, List.drop_one, List.tail_cons]
  exact join_head _ (by simp [h])
theorem fin_A (T : List Bytes) (h : T ≠ []) : rpFin (47 :: join T) = join T := by
  rw [rpFin, List.drop_one, List.tail_cons, if_pos (join_head T h)]
theorem fin_B (t : Bytes) (T : List Bytes) (ht : t ≠ []) (hn : noSl t) : rpFin (join (t :: T)) = join (t :: T) := by
  rw [rpFin, if_neg]
  cases t with
  | nil => exact absurd rfl ht
  | cons a b =>
    have := hn a (by simp)
    simp [join, this]
theorem end_plain (d : Bytes) (f : Bool) (o : Bytes) (h : Sim d f o) (hf : f = false) (ho : o ≠ []) (h2 : ¬ two o) : rpFin d = o := by
  obtain ⟨Z, T, hT, rfl, h⟩ := h
  rcases h with ⟨_, rfl⟩ | ⟨_, ⟨t, T', rfl, ht⟩, rfl⟩ | ⟨rfl, _, _⟩
  · cases Z with
    | zero =>
      by_cases hn : T = []
      · subst hn; exact absurd rfl ho
      · simpa using fin_A T hn
    | succ Z =>
      by_cases hn : T = []
      · subst hn
        cases Z with
        | zero => rfl
        | succ Z => exact absurd (by rw [rep_snoc, List.append_nil]; exact two_rep Z [[]] (by simp)) h2
      · exact absurd (two_rep Z T hn) h2
  · cases Z with
    | zero => simpa using fin_B t T' ht (hT t (by simp))
    | succ Z => exact absurd (two_rep Z _ (by simp)) h2
  · cases hf
theorem end_dots (d : Bytes) (f : Bool) (o : Bytes) (h : Sim d f o) (h2 : ¬ two (o ++ [47])) : rpFin (d ++ [47]) = o ++ [47] := by
  obtain ⟨Z, T, hT, rfl, h⟩ := h
  have ho : join (List.replicate Z [] ++ T) ++ [47] = join (List.replicate Z [] ++ (T ++ [[]])) := by simp [join]
  rw [ho] at h2 ⊢
  have hZ : Z = 0 := by
    cases Z with
    | zero => rfl
    | succ Z => exact absurd (two_rep Z _ (by simp)) h2
  subst hZ
  simp only [List.replicate_zero, List.nil_append]
  rcases h with ⟨_, rfl⟩ | ⟨_, ⟨t, T', rfl, ht⟩, rfl⟩ | ⟨_, rfl, rfl⟩
  · have e : 47 :: join T ++ [47] = 47 :: join (T ++ [[]]) := by simp [join]
    rw [e, fin_A _ (by simp)]
  · have e : join (t :: T') ++ [47] = join (t :: (T' ++ [[]])) := by simp [join]
    rw [e]; simpa using fin_B t (T' ++ [[]]) ht (hT t (by simp))
  · rfl
theorem rp_rd (l : List Bytes) (hl : l ≠ []) (hs : ∀ e ∈ l, noSl e) (d : Bytes) (f : Bool) (o : Bytes) (h : Sim d f o) (h2 : ¬ two (rdSeg l o)) : rpFin (rpRun l d f) = rdSeg l o := by
  induction l generalizing d f o with
  | nil => exact absurd rfl hl
  | cons e r ih =>
    by_cases hr : r = []
    · subst hr
      rw [rpRun_one]
      by_cases h1 : e = [46]
      · subst h1
        have e1 : rdSeg [[46]] o = o ++ [47] := rfl
        rw [e1] at h2 ⊢
        exact end_dots d f o h h2
      · by_cases h3 : e = [46, 46]
        · subst h3
          have e1 : rdSeg [[46, 46]] o = rdDrop o ++ [47] := rfl
          rw [e1] at h2 ⊢
          exact end_dots _ _ _ (sim_pop d f o h) h2
        · have e1 : rdSeg [e] o = o ++ 47 :: e := by rw [rdSeg, if_neg h1, if_neg h3]
          have e2 : dots e = false := by simp [dots, h1, h3]
          rw [e1] at h2 ⊢
          rw [e2, rpStep, if_neg h1, if_neg h3]
          exact end_plain _ false _ (sim_push d f o e (hs e (by simp)) h) rfl (by simp) h2
    · rw [rdSeg_cons _ _ _ hr] at h2 ⊢
      rw [rpRun_cons _ _ _ _ hr]
      refine ih hr (fun x hx => hs x (by simp [hx])) _ _ _ ?_ h2
      by_cases h1 : e = [46]
      · subst h1
        obtain ⟨Z, T, hT, rfl, h⟩ := h
        refine ⟨Z, T, hT, rfl, ?_⟩
        rcases h with ⟨rfl, rfl⟩ | ⟨rfl, h, rfl⟩ | ⟨rfl, rfl, rfl⟩
        · exact .inl ⟨rfl, rfl⟩
        · exact .inr (.inl ⟨rfl, h, rfl⟩)
        · exact .inl ⟨rfl, rfl⟩
      · rw [if_neg h1, rpStep, if_neg h1]
        by_cases h3 : e = [46, 46]
        · rw [if_pos h3, if_pos h3]; exact sim_pop d f o h
        · rw [if_neg h3, if_neg h3]; exact sim_push d f o e (hs e (by simp)) h
/-- A path that begins with a slash: both ways answer alike, unless the reference's begins with two. -/
theorem resolve_full (x : Bytes) (h2 : ¬ two (removeDots (47 :: x))) : rpFin (rpRun (segs (47 :: x)) [47] true) = removeDots (47 :: x) := by
  have e1 : removeDots (47 :: x) = rdSeg (segs x) [] := by
    rw [removeDots, List.length_cons]; exact rd_segs x.length x [] (by omega)
  have e2 : segs (47 :: x) = [] :: segs x := by rw [segs, if_pos rfl]
  have e3 : rpRun ([] :: segs x) [47] true = rpRun (segs x) [47] false := by rw [rpRun_cons _ _ _ _ (segs_ne x)]; rfl
  rw [e1] at h2 ⊢
  rw [e2, e3]
  exact rp_rd (segs x) (segs_ne x) (segs_noSl x) _ _ _ ⟨0, [], by simp, rfl, .inl ⟨rfl, rfl⟩⟩ h2
theorem rpFull_head (b r : Bytes) (hr : r ≠ []) : ∃ x, rpFull (47 :: b) r = 47 :: x := by
  match r, hr with
  | c :: r, _ =>
    rw [rpFull]
    by_cases hc : c = 47
    · rw [if_pos hc, hc]; exact ⟨_, rfl⟩
    · rw [if_neg hc]
      have h1 := lastIdx_lo 47 b
      have : ∃ n : Nat, (lastIdx 47 (47 :: b) + 1).toNat = n + 1 := by
        rw [lastIdx]; split
        · exact ⟨(lastIdx 47 b + 1).toNat, by omega⟩
        · exact ⟨0, rfl⟩
      obtain ⟨n, hn⟩ := this
      rw [hn, List.take_succ_cons]
      exact ⟨_, rfl⟩
/-- The law: a path is resolved against one that begins with a slash as the reference says. -/
theorem resolve_law (b r : Bytes) (hr : r ≠ []) (h2 : ¬ two (removeDots (rpFull (47 :: b) r))) : resolvePath (47 :: b) r = removeDots (rpFull (47 :: b) r) := by
  obtain ⟨x, hx⟩ := rpFull_head b r hr
  rw [resolvePath, hx, if_neg (by simp)]
  rw [hx] at h2
  exact resolve_full x h2
/-- The reference's way. -/
def specRP (b r : Bytes) : Bytes := if begins r [47] then removeDots r else removeDots (b.take (lastIdx 47 b + 1).toNat ++ r)
theorem specRP_eq (b r : Bytes) (hr : r ≠ []) : specRP b r = removeDots (rpFull b r) := by
  match r, hr with
  | c :: r, _ =>
    rw [specRP, rpFull]
    by_cases hc : c = 47
    · subst hc; simp [begins]
    · have : begins (c :: r) [47] = false := by
        simpa [begins, List.isPrefixOf] using fun (e : (47 : UInt8) = c) => hc e.symm
      rw [this, if_neg hc]; rfl
/-- A character of the grammar, percent signs aside. -/
def okc (more : Bytes) (c : UInt8) : Bool := unreserved c || mem [33, 36, 38, 39, 40, 41, 42, 43, 44, 59, 61] c || mem more c
theorem hexd_ok (c : UInt8) : unreserved (hexU (c >>> 4)) = true ∧ unreserved (hexU (c &&& 15)) = true := by
  have := all_u8 (fun c => unreserved (hexU (c >>> 4)) && unreserved (hexU (c &&& 15))) (by decide +kernel) c
  simpa using this
theorem chars_esc (more : Bytes) (m : UInt8) (s : Bytes) (h : ∀ c, should m c = false → okc more c = true ∧ c ≠ 37) : chars more true (esc m s) = true := by
  induction s with
  | nil => exact chars_nil _ _
  | cons c r ih =>
    rw [esc, esc1]
    by_cases hb : blank m c = true
    · rw [if_pos hb, List.singleton_append, chars_other _ _ _ _ (by decide), ih]; rfl
    · rw [if_neg hb]
      by_cases hs : should m c = true
      · rw [if_pos hs]
        have h2 := hex2_hexU c
        rw [List.cons_append, List.cons_append, List.cons_append, List.nil_append, chars_pct, ih]
        rw [decide_eq_true h2.1, decide_eq_true h2.2.1]; rfl
      · rw [if_neg hs]
        have h3 := h c (by simpa using hs)
        rw [List.singleton_append, chars_other _ _ _ _ (by simpa using h3.2), ih]
        have h4 := h3.1
        unfold okc at h4
        rw [h4]; rfl
theorem ok_segment (c : UInt8) (h : should 2 c = false) : okc [58, 64] c = true ∧ c ≠ 37 := by
  have := all_u8 (fun c => should 2 c || (okc [58, 64] c && c != 37)) (by decide +kernel) c
  simpa [h] using this
theorem ok_query (c : UInt8) (h : should 32 c = false) : okc [58, 64, 47, 63] c = true ∧ c ≠ 37 := by
  have := all_u8 (fun c => should 32 c || (okc [58, 64, 47, 63] c && c != 37)) (by decide +kernel) c
  simpa [h] using this
theorem ok_path (c : UInt8) (h : should 1 c = false) : okc [58, 64, 47] c = true ∧ c ≠ 37 := by
  have := all_u8 (fun c => should 1 c || (okc [58, 64, 47] c && c != 37)) (by decide +kernel) c
  simpa [h] using this
theorem ok_fragment (c : UInt8) (h : should 64 c = false) : okc [58, 64, 47, 63] c = true ∧ c ≠ 37 := by
  have := all_u8 (fun c => should 64 c || (okc [58, 64, 47, 63] c && c != 37)) (by decide +kernel) c
  simpa [h] using this
theorem segment_esc (s : Bytes) : chars [58, 64] true (esc 2 s) = true := chars_esc _ _ s ok_segment
/-- No byte of a set in what was escaped. -/
theorem index_none (set s : Bytes) (h : ∀ c ∈ s, mem set c = false) : index s set = s.length := by
  induction s with
  | nil => rfl
  | cons c r ih =>
    rw [index_cons, h c (by simp), ih (fun d hd => h d (by simp [hd]))]; rfl
theorem setting_esc (s : Bytes) : chars [58, 64, 47, 63] true (esc 32 s) = true ∧ index (esc 32 s) [38, 59, 61] = (esc 32 s).length := by
  refine ⟨chars_esc _ _ s ok_query, index_none _ _ ?_⟩
  induction s with
  | nil => intro c hc; cases hc
  | cons c r ih =>
    intro d hd
    rw [esc] at hd
    rcases List.mem_append.1 hd with hd | hd
    · have hp : ∀ c, (esc1 32 c).all (fun d => !mem [38, 59, 61] d) = true := fun c => all_u8 (fun c => (esc1 32 c).all (fun d => !mem [38, 59, 61] d)) (by decide +kernel) c
      have := List.all_eq_true.1 (hp c) d hd
      simpa using this
    · exact ih d hd
/-- The hints that the package takes. -/
def venc1 (m c : UInt8) : Bool := mem [33, 36, 38, 39, 40, 41, 42, 43, 44, 59, 61, 58, 64] c || mem [91, 93] c || c == 37 || !should m c
def venc (m : UInt8) (s : Bytes) : Bool := s.all (venc1 m)
theorem hex_venc (m c : UInt8) (hm : m = 1 ∨ m = 64) (h : 0 ≤ hexv c) : venc1 m c = true := by
  have h1 := all_u8 (fun c => decide (0 ≤ hexv c → venc1 1 c = true ∧ venc1 64 c = true)) (by decide +kernel) c
  have h2 := (of_decide_eq_true h1) h
  rcases hm with rfl | rfl
  · exact h2.1
  · exact h2.2
theorem venc_chars (more : Bytes) (m : UInt8) (hm : m = 1 ∨ m = 64) (hok : ∀ c, okc more c = true → venc1 m c = true) (n : Nat) (s : Bytes) (hn : s.length ≤ n) (h : chars more true s = true) : venc m s = true := by
  induction n generalizing s with
  | zero => have : s = [] := List.eq_nil_of_length_eq_zero (by omega); rw [this]; rfl
  | succ n ih =>
    match s with
    | [] => rfl
    | c :: r =>
      simp only [List.length_cons] at hn
      by_cases hc : c = 37
      · subst hc
        match r with
        | [] => rw [chars_short _ _ _ (by simp)] at h; cases h
        | [a] => rw [chars_short _ _ _ (by simp)] at h; cases h
        | a :: b :: r' =>
          rw [chars_pct] at h
          simp only [List.length_cons] at hn
          simp at h
          have := ih r' (by omega) h.2
          unfold venc at this ⊢
          simp only [List.all_cons, this, hex_venc m a hm h.1.1, hex_venc m b hm h.1.2]
          simp [venc1]
      · rw [chars_other _ _ _ _ (by simpa using hc)] at h
        rw [Bool.and_eq_true] at h
        have := ih r (by omega) h.2
        unfold venc at this ⊢
        rw [List.all_cons, this, hok c h.1]; rfl
theorem venc_path (s : Bytes) (h : chars [58, 64, 47] true s = true) : venc 1 s = true :=
  venc_chars [58, 64, 47] 1 (.inl rfl) (fun c hc => by
    have := all_u8 (fun c => !okc [58, 64, 47] c || venc1 1 c) (by decide +kernel) c
    simpa [hc] using this) s.length s (Nat.le_refl _) h
theorem venc_fragment (s : Bytes) (h : chars [58, 64, 47, 63] true s = true) : venc 64 s = true :=
  venc_chars [58, 64, 47, 63] 64 (.inr rfl) (fun c hc => by
    have := all_u8 (fun c => !okc [58, 64, 47, 63] c || venc1 64 c) (by decide +kernel) c
    simpa [hc] using this) s.length s (Nat.le_refl _) h
/-- The escaped path, or fragment, of a URL. -/
def hintOk (m : UInt8) (p h : Bytes) : Bool := !h.isEmpty && venc m h && dec false h == some p
def escPath (p h : Bytes) : Bytes := if hintOk 1 p h then h else if p = [42] then [42] else esc 1 p
def escFrag (p h : Bytes) : Bytes := if hintOk 64 p h then h else esc 64 p
theorem hintOk_dec {m : UInt8} {p h : Bytes} (hk : hintOk m p h = true) : dec false h = some p := by
  unfold hintOk at hk
  rw [Bool.and_eq_true] at hk
  simpa using hk.2
theorem escPath_dec (p h : Bytes) : dec false (escPath p h) = some p := by
  unfold escPath
  split
  · rename_i hk; exact hintOk_dec hk
  · split
    · rename_i hp; rw [hp]; rfl
    · exact dec_esc false 1 p (by decide +kernel) (by decide) (fun h => by cases h)
theorem escFrag_dec (p h : Bytes) : dec false (escFrag p h) = some p := by
  unfold escFrag
  split
  · rename_i hk; exact hintOk_dec hk
  · exact dec_esc false 64 p (by decide +kernel) (by decide) (fun h => by cases h)
theorem escPath_hint (p h : Bytes) (h0 : h ≠ []) (hd : dec false h = some p) (hc : chars [58, 64, 47] true h = true) : escPath p h = h := by
  unfold escPath
  rw [if_pos]
  unfold hintOk
  rw [venc_path h hc, hd]
  cases h with
  | nil => exact absurd rfl h0
  | cons a b => simp
theorem escFrag_hint (p h : Bytes) (h0 : h ≠ []) (hd : dec false h = some p) (hc : chars [58, 64, 47, 63] true h = true) : escFrag p h = h := by
  unfold escFrag
  rw [if_pos]
  unfold hintOk
  rw [venc_fragment h hc, hd]
  cases h with
  | nil => exact absurd rfl h0
  | cons a b => simp
/-- The reference's element of a path. -/
def elem1 (c : UInt8) : Bytes := if unreserved c || c == 47 then [c] else [37, hexU (c >>> 4), hexU (c &&& 15)]
def elem : Bytes → Bytes
  | [] => []
  | c :: r => elem1 c ++ elem r
def wantQ1 (c : UInt8) : Bytes := if c == 32 then [43] else if c == 47 then [37, 50, 70] else elem1 c
def wantQ : Bytes → Bytes
  | [] => []
  | c :: r => wantQ1 c ++ wantQ r
theorem wantQ_esc (s : Bytes) : esc 32 s = wantQ s := by
  induction s with
  | nil => rfl
  | cons c r ih =>
    rw [esc, wantQ, ih]
    have := all_u8 (fun c => esc1 32 c == wantQ1 c) (by decide +kernel) c
    rw [show esc1 32 c = wantQ1 c by simpa using this]
theorem wantQ_app (a b : Bytes) : wantQ (a ++ b) = wantQ a ++ wantQ b := by
  induction a with
  | nil => rfl
  | cons c r ih => simp only [List.cons_append, wantQ, ih, List.append_assoc]
theorem elem_app (a b : Bytes) : elem (a ++ b) = elem a ++ elem b := by
  induction a with
  | nil => rfl
  | cons c r ih => simp only [List.cons_append, elem, ih, List.append_assoc]
theorem elem1_len (c : UInt8) : (elem1 c).length ≤ 3 := by unfold elem1; split <;> simp
theorem elem_len (s : Bytes) : (elem s).length ≤ 3 * s.length := by
  induction s with
  | nil => simp [elem]
  | cons c r ih => have := elem1_len c; simp only [elem, List.length_append, List.length_cons]; omega
theorem wantQ1_len (c : UInt8) : (wantQ1 c).length ≤ 3 := by
  unfold wantQ1; split
  · simp
  · split
    · simp
    · exact elem1_len c
theorem wantQ_len (s : Bytes) : (wantQ s).length ≤ 3 * s.length := by
  induction s with
  | nil => simp [wantQ]
  | cons c r ih => have := wantQ1_len c; simp only [wantQ, List.length_append, List.length_cons]; omega
def isCtl (c : UInt8) : Bool := decide (c.toNat < 32) || c == 127
def ctl (s : Bytes) : Bool := s.any isCtl
def lowc (c : UInt8) : UInt8 := if 65 ≤ c.toNat ∧ c.toNat ≤ 90 then c + 32 else c
def lower (s : Bytes) : Bytes := s.map lowc
/-- What is let through in a host (4), in a zone (8); elsewhere all whose percent signs are followed by two digits. -/
def vetP (m a b : UInt8) : Bool :=
  decide (0 ≤ hexv a) && decide (0 ≤ hexv b) && (!(m == 4) || decide (8 ≤ hexv a) || (a == 50 && b == 53)) &&
    (!(m == 8) || (a == 50 && b == 53) || hex2 a b == 32 || !should 4 (hex2 a b))
def vetC (m c : UInt8) : Bool := !(m == 4 || m == 8) || decide (128 ≤ c.toNat) || !should m c
def vet (m : UInt8) : Bytes → Bool
  | [] => true
  | c :: r =>
    if c = 37 then
      match r with
      | a :: b :: r' => vetP m a b && vet m r'
      | _ => false
    else if c = 43 then vet m r else vetC m c && vet m r
theorem vet_pct (m a b : UInt8) (r : Bytes) : vet m (37 :: a :: b :: r) = (vetP m a b && vet m r) := by simp [vet]
theorem vet_short (m : UInt8) (r : Bytes) (h : r.length < 2) : vet m (37 :: r) = false := by
  match r, h with
  | [], _ => simp [vet]
  | [a], _ => simp [vet]
theorem vet_plus (m : UInt8) (r : Bytes) : vet m (43 :: r) = vet m r := by
  rw [vet.eq_def]; simp
theorem vet_other (m c : UInt8) (r : Bytes) (h : c ≠ 37) (h' : c ≠ 43) : vet m (c :: r) = (vetC m c && vet m r) := by
  rw [vet.eq_def]; simp [h, h']
theorem vet_dec (m : UInt8) (q : Bool) (n : Nat) (s : Bytes) (hn : s.length ≤ n) (h : vet m s = true) : (dec q s).isSome = true := by
  induction n generalizing s with
  | zero => have : s = [] := List.eq_nil_of_length_eq_zero (by omega); rw [this]; rfl
  | succ n ih =>
    match s with
    | [] => rfl
    | c :: r =>
      simp only [List.length_cons] at hn
      by_cases hc : c = 37
      · subst hc
        match r with
        | [] => rw [vet_short _ _ (by simp)] at h; cases h
        | [a] => rw [vet_short _ _ (by simp)] at h; cases h
        | a :: b :: r' =>
          rw [vet_pct, Bool.and_eq_true] at h
          simp only [List.length_cons] at hn
          have h1 := h.1
          unfold vetP at h1
          simp only [Bool.and_eq_true, decide_eq_true_eq] at h1
          rw [dec_pct, if_pos ⟨h1.1.1.1, h1.1.1.2⟩]
          have := ih r' (by omega) h.2
          simpa using this
      · rw [dec_other _ _ _ hc]
        have : vet m r = true := by
          by_cases hp : c = 43
          · subst hp; rwa [vet_plus] at h
          · rw [vet_other _ _ _ hc hp, Bool.and_eq_true] at h; exact h.2
        have := ih r (by omega) this
        simpa using this
def uns (m : UInt8) (s : Bytes) : Option Bytes := if vet m s then dec false s else none

/-- An IPv4 address as the package takes it: digits so far in the octet, its value, octets behind. -/
def v4f : Nat → Nat → Nat → Bytes → Bool
  | dg, v, pos, [] => decide (3 ≤ pos)
  | dg, v, pos, c :: r =>
    if isDigit c then !(dg == 1 && v == 0) && decide (v * 10 + (c.toNat - 48) ≤ 255) && v4f (dg + 1) (v * 10 + (c.toNat - 48)) pos r
    else if c = 46 then decide (0 < dg) && !r.isEmpty && decide (pos < 3) && v4f 0 0 (pos + 1) r
    else false
def v4ok (s : Bytes) : Bool := v4f 0 0 0 s
def hexRun (s : Bytes) : Nat := s.findIdx (fun c => !isHex c)
/-- The loop of an IPv6 address: bytes so far, whether there was an ellipsis. -/
def v6go : Nat → Nat → Bool → Bytes → Bool
  | 0, _, _, _ => false
  | n + 1, i, e, s =>
    if 16 ≤ i then s.isEmpty && !e
    else if hexRun s = 0 ∨ 4 < hexRun s then false
    else if (s.drop (hexRun s)).head? = some 46 then (e || i == 12) && decide (i + 4 ≤ 16) && v4ok s && (if i + 4 < 16 then e else !e)
    else match s.drop (hexRun s) with
      | [] => if i + 2 < 16 then e else !e
      | c :: r =>
        if c ≠ 58 then false
        else match r with
          | [] => false
          | d :: r' =>
            if d = 58 then
              if e then false
              else if r' = [] then decide (i + 2 < 16)
              else v6go n (i + 2) true r'
            else v6go n (i + 2) e (d :: r')
def v6b (s : Bytes) : Bool := if begins s [58, 58] then (if s.drop 2 = [] then true else v6go 9 0 true (s.drop 2)) else v6go 9 0 false s
def v6 (s : Bytes) : Bool := if index s [37] < s.length then decide (index s [37] + 1 < s.length) && v6b (s.take (index s [37])) else v6b s
/-- An address with a colon, as netip takes it. -/
def addr6 (s : Bytes) : Bool := ((s.drop (index s [46, 58, 37])).head? == some 58) && v6 s

def hostB (host : Bytes) : Option Bytes :=
  let hn := (host.take (lastIdx 93 host).toNat).drop 1
  if 0 ≤ fsub [37, 50, 53] hn then
    match uns 4 (hn.take (fsub [37, 50, 53] hn).toNat), uns 8 (hn.drop (fsub [37, 50, 53] hn).toNat) with
    | some a, some b => some (a ++ b)
    | _, _ => none
  else uns 4 hn
def http (s : Bytes) : Bool := s == [104, 116, 116, 112] || s == [104, 116, 116, 112, 115]
def hostPortOk (scheme host : Bytes) : Bool :=
  decide (fsub [58] host < 0) || optPort (host.drop (if lastIdx 58 host ≠ fsub [58] host ∧ http scheme = false then lastIdx 58 host else fsub [58] host).toNat)
def parseHost (scheme host : Bytes) : Option Bytes :=
  if 0 < lastIdx 91 host then none
  else if lastIdx 91 host = 0 then
    if lastIdx 93 host < 0 then none
    else if optPort (host.drop ((lastIdx 93 host).toNat + 1)) = false then none
    else match uns 4 (host.drop ((lastIdx 93 host).toNat + 1)), hostB host with
      | some p, some h => if addr6 h then some (91 :: h ++ 93 :: p) else none
      | _, _ => none
  else if hostPortOk scheme host then uns 4 host else none
abbrev PUser := Option (Bytes × Bytes × Bool)
def parseUser (ui : Bytes) : Option (Bytes × Bytes × Bool) :=
  if validUserinfo ui = false then none
  else if fsub [58] ui < 0 then (dec false ui).map (fun u => (u, [], false))
  else match dec false (cutB [58] ui), dec false (cutA [58] ui) with
    | some u, some p => some (u, p, true)
    | _, _ => none
def parseAuth (scheme a : Bytes) : Option (PUser × Bytes) :=
  if lastIdx 64 a < 0 then (parseHost scheme a).map (fun h => (none, h))
  else match parseHost scheme (a.drop ((lastIdx 64 a).toNat + 1)), parseUser (a.take (lastIdx 64 a).toNat) with
    | some h, some u => some (some u, h)
    | _, _ => none
structure PU where
  scheme : Bytes := []
  opq : Bytes := []
  user : PUser := none
  host : Bytes := []
  path : Bytes := []
  frag : Bytes := []
  rawq : Bytes := []
  rawpath : Bytes := []
  rawfrag : Bytes := []
  fq : Bool := false
  oh : Bool := false
def cnt (c : UInt8) (s : Bytes) : Nat := (s.filter (· == c)).length
/-- Is the question mark the last byte, and the only one? -/
def pq (r : Bytes) : Bool := ends r [63] && cnt 63 r == 1
def pRest (r : Bytes) : Bytes := if pq r then r.take (r.length - 1) else cutB [63] r
def pQuery (r : Bytes) : Bytes := if pq r then [] else cutA [63] r
def setPath (u : PU) (p : Bytes) : Option PU := (dec false p).map (fun x => { u with path := x, rawpath := if p = esc 1 x then [] else p })
def setFrag (u : PU) (p : Bytes) : Option PU := (dec false p).map (fun x => { u with frag := x, rawfrag := if p = esc 64 x then [] else p })
def authOf (rest : Bytes) : Bytes := cutB [47] (rest.drop 2)
def restOf (rest : Bytes) : Bytes := if fsub [47] (rest.drop 2) < 0 then [] else (rest.drop 2).drop (fsub [47] (rest.drop 2)).toNat
def parse1 (u : PU) (rest : Bytes) (via : Bool) : Option PU :=
  if (!u.scheme.isEmpty || (!via && !begins rest [47, 47, 47])) && begins rest [47, 47] then
    match parseAuth u.scheme (authOf rest) with
    | none => none
    | some (us, h) => setPath { u with user := us, host := h } (restOf rest)
  else setPath { u with oh := !u.scheme.isEmpty && begins rest [47] } rest
def parse0 (raw : Bytes) (via : Bool) : Option PU :=
  if ctl raw then none
  else if raw = [] ∧ via = true then none
  else if raw = [42] then some { path := [42] }
  else if gsc 0 raw = -2 then none
  else
    let u : PU := { scheme := lower (gsS raw), rawq := pQuery (gsR raw), fq := pq (gsR raw) }
    let rest := pRest (gsR raw)
    if begins rest [47] = false then
      if u.scheme ≠ [] then some { u with opq := rest }
      else if via then none
      else if 0 ≤ fsub [58] (cutB [47] rest) then none
      else parse1 u rest via
    else parse1 u rest via
def parse (raw : Bytes) : Option PU :=
  match parse0 (cutB [35] raw) false with
  | none => none
  | some u => if cutA [35] raw = [] then some u else setFrag u (cutA [35] raw)
def parseReq (raw : Bytes) : Option PU := parse0 raw true

/-- String. -/
def uiStr (u : Bytes × Bytes × Bool) : Bytes := esc 16 u.1 ++ if u.2.2 then 58 :: esc 16 u.2.1 else []
def strHier (u : PU) : Bytes :=
  let a : Bytes :=
    if !u.scheme.isEmpty || !u.host.isEmpty || u.user.isSome then
      if u.oh && u.host.isEmpty && !u.user.isSome then []
      else (if !u.host.isEmpty || !u.path.isEmpty || u.user.isSome then [47, 47] else []) ++ (match u.user with | none => [] | some x => uiStr x ++ [64]) ++ esc 4 u.host
    else []
  let p := escPath u.path u.rawpath
  let two := u.oh && u.host.isEmpty && !u.user.isSome && begins p [47, 47]
  let q := if two then p.drop 1 else p
  let s := (if u.scheme.isEmpty then [] else u.scheme ++ [58]) ++ a ++ (if two then [37, 50, 70] else []) ++ (if !q.isEmpty && !(q.head? == some 47) && !u.host.isEmpty then [47] else [])
  s ++ (if s.isEmpty && decide (0 ≤ fsub [58] (cutB [47] q)) then [46, 47] else []) ++ q
def ustr (u : PU) : Bytes :=
  (if u.opq.isEmpty then strHier u else (if u.scheme.isEmpty then [] else u.scheme ++ [58]) ++ u.opq) ++
    (if u.fq || !u.rawq.isEmpty then 63 :: u.rawq else []) ++ (if u.frag.isEmpty then [] else 35 :: escFrag u.frag u.rawfrag)
theorem cnt_nil (c : UInt8) : cnt c [] = 0 := rfl
theorem cnt_cons (c d : UInt8) (r : Bytes) : cnt c (d :: r) = (if d == c then 1 else 0) + cnt c r := by
  unfold cnt; rw [List.filter_cons]; split
  · rw [List.length_cons]; omega
  · omega
theorem cnt_le (c : UInt8) (s : Bytes) : cnt c s ≤ s.length := List.length_filter_le _ _
def isUp (c : UInt8) : Bool := decide (65 ≤ c.toNat) && decide (c.toNat ≤ 90)
theorem lowc_no (c : UInt8) (h : isUp c = false) : lowc c = c := by
  unfold lowc
  rw [if_neg]
  intro hc
  simp [isUp, hc.1, hc.2] at h
theorem lowc_yes (c : UInt8) (h : isUp c = true) : lowc c = c + 32 ∧ ((c + 32).toNat : Int) = (c.toNat : Int) + 32 := by
  have h1 := all_u8 (fun c => !isUp c || (lowc c == c + 32 && decide (((c + 32).toNat : Int) = (c.toNat : Int) + 32))) (by decide +kernel) c
  simpa [h] using h1
theorem lower_same (s : Bytes) (h : s.any isUp = false) : lower s = s := by
  induction s with
  | nil => rfl
  | cons c r ih =>
    rw [List.any_cons, Bool.or_eq_false_iff] at h
    have : lower (c :: r) = lowc c :: lower r := rfl
    rw [this, lowc_no c h.1, ih h.2]
theorem lower_app (a b : Bytes) : lower (a ++ b) = lower a ++ lower b := by simp [lower]
theorem lower_len (s : Bytes) : (lower s).length = s.length := by simp [lower]
/-- What is decoded is no longer than what was written. -/
theorem dec_len (q : Bool) (n : Nat) (s x : Bytes) (hn : s.length ≤ n) (h : dec q s = some x) : x.length ≤ s.length := by
  induction n generalizing s x with
  | zero => have : s = [] := List.eq_nil_of_length_eq_zero (by omega); subst this; cases h; simp
  | succ n ih =>
    match s with
    | [] => cases h; simp
    | c :: r =>
      simp only [List.length_cons] at hn
      by_cases hc : c = 37
      · subst hc
        match r with
        | [] => rw [dec_short _ _ (by simp)] at h; cases h
        | [a] => rw [dec_short _ _ (by simp)] at h; cases h
        | a :: b :: r' =>
          simp only [List.length_cons] at hn
          rw [dec_pct] at h
          split at h
          · obtain ⟨y, hy, rfl⟩ := Option.map_eq_some_iff.1 h
            have := ih r' y (by omega) hy
            simp only [List.length_cons]; omega
          · cases h
      · rw [dec_other _ _ _ hc] at h
        obtain ⟨y, hy, rfl⟩ := Option.map_eq_some_iff.1 h
        have := ih r y (by omega) hy
        simp only [List.length_cons]; omega
theorem dec_nopct (s : Bytes) (h : ∀ c ∈ s, c ≠ 37) : dec false s = some s := by
  induction s with
  | nil => rfl
  | cons c r ih =>
    rw [dec_other _ _ _ (h c (by simp)), ih (fun d hd => h d (by simp [hd]))]; rfl
theorem uns_nopct (m : UInt8) (s : Bytes) (h : ∀ c ∈ s, c ≠ 37) : uns m s = if vet m s then some s else none := by
  unfold uns; rw [dec_nopct s h]
theorem gsc_ascii (i : Nat) (s : Bytes) (h : 0 ≤ gsc i s) : ∀ c ∈ s.take ((gsc i s).toNat - i), c.toNat < 128 := by
  induction s generalizing i with
  | nil => intro c hc; simp at hc
  | cons d r ih =>
    have key : ∀ j, gsc (j + 1) r ≤ -1 ∨ (j : Int) + 1 ≤ gsc (j + 1) r := by
      intro j
      have : ∀ (r : Bytes) (j : Nat), gsc j r ≤ -1 ∨ (j : Int) ≤ gsc j r := by
        intro r
        induction r with
        | nil => intro j; left; simp [gsc]
        | cons e r ih2 =>
          intro j
          unfold gsc
          (repeat' split)
          · rcases ih2 (j + 1) with h | h; exact .inl h; exact .inr (by omega)
          · left; omega
          · rcases ih2 (j + 1) with h | h; exact .inl h; exact .inr (by omega)
          · left; omega
          · right; omega
          · left; omega
      exact this r (j + 1)
    have hd : ∀ c : UInt8, (isAlpha c || isDigit c || mem [43, 45, 46] c) = true → c.toNat < 128 := by
      intro c hc
      have := all_u8 (fun c => !(isAlpha c || isDigit c || mem [43, 45, 46] c) || decide (c.toNat < 128)) (by decide +kernel) c
      simpa [hc] using this
    unfold gsc at h ⊢
    split
    · rename_i ha
      rw [if_pos ha] at h
      intro c hc
      have hk := key i
      rw [show (gsc (i + 1) r).toNat - i = ((gsc (i + 1) r).toNat - (i + 1)) + 1 by omega, List.take_succ_cons] at hc
      rcases List.mem_cons.1 hc with rfl | hc
      · exact hd _ (by rw [ha]; rfl)
      · exact ih (i + 1) h c hc
    · rename_i ha
      rw [if_neg ha] at h
      split
      · rename_i hb
        rw [if_pos hb] at h
        split
        · rename_i h0; rw [if_pos h0] at h; omega
        · rename_i h0
          rw [if_neg h0] at h
          intro c hc
          have hk := key i
          rw [show (gsc (i + 1) r).toNat - i = ((gsc (i + 1) r).toNat - (i + 1)) + 1 by omega, List.take_succ_cons] at hc
          rcases List.mem_cons.1 hc with rfl | hc
          · refine hd _ ?_
            rcases Bool.or_eq_true_iff.1 hb with h' | h' <;> simp [h']
          · exact ih (i + 1) h c hc
      · rename_i hb
        rw [if_neg hb] at h
        split
        · rename_i h58
          split
          · rename_i h0; rw [if_pos h58, if_pos h0] at h; omega
          · intro c hc; simp at hc
        · rename_i h58; rw [if_neg h58] at h; omega
theorem gsS_ascii (s : Bytes) : ∀ c ∈ gsS s, c.toNat < 128 := by
  intro c hc
  unfold gsS at hc
  split at hc
  · rename_i h; exact gsc_ascii 0 s h c (by simpa using hc)
  · cases hc
theorem gsS_len (s : Bytes) : (gsS s).length ≤ s.length := by
  unfold gsS; split
  · rw [List.length_take]; omega
  · simp
theorem gsR_len (s : Bytes) : (gsR s).length ≤ s.length := by
  unfold gsR; split
  · rw [List.length_drop]; omega
  · omega
theorem cutB_len (t s : Bytes) : (cutB t s).length ≤ s.length := by
  unfold cutB; split
  · omega
  · rw [List.length_take]; omega
theorem cutA_len (t s : Bytes) : (cutA t s).length ≤ s.length := by
  unfold cutA; split
  · simp
  · rw [List.length_drop]; omega
theorem pRest_len (s : Bytes) : (pRest s).length ≤ s.length := by
  unfold pRest; split
  · rw [List.length_take]; omega
  · exact cutB_len _ _
theorem pQuery_len (s : Bytes) : (pQuery s).length ≤ s.length := by
  unfold pQuery; split
  · simp
  · exact cutA_len _ _
theorem ends_pos (s : Bytes) (h : ends s [63] = true) : 0 < s.length := by
  have := (List.isSuffixOf_iff_suffix.1 h).length_le
  simp at this; omega
theorem lastIdx_nomem (c : UInt8) (s : Bytes) (h : c ∉ s) : lastIdx c s = -1 := by
  induction s with
  | nil => rfl
  | cons d r ih =>
    simp at h
    have := ih h.2
    unfold lastIdx
    rw [this, if_neg (by omega), if_neg (by simpa using fun e => h.1 e.symm)]
theorem lastIdx_mid (c : UInt8) (a n : Bytes) (h : c ∉ n) : lastIdx c (a ++ c :: n) = a.length := by
  induction a with
  | nil =>
    have := lastIdx_nomem c n h
    show lastIdx c (c :: n) = _
    unfold lastIdx
    rw [this, if_neg (by omega)]; simp
  | cons d r ih =>
    rw [List.cons_append]; unfold lastIdx; rw [ih, if_pos (by omega)]; simp
theorem index_mem (s set : Bytes) (c : UInt8) (hc : mem set c = true) : c ∉ s.take (index s set) := by
  intro h
  have := List.all_eq_true.1 (take_index s set) c h
  rw [hc] at this; cases this
/-- No fragment: no number sign. -/
theorem spF_no (s : Bytes) (h : spF s = false) : (35 : UInt8) ∉ s := by
  have h4 : (35 : UInt8) ∉ sp4 s := by
    have h3 : ∀ t : Bytes, (t = [] ∨ t.head? = some 35 ∨ 35 ∉ t) → begins t [35] = false → (35 : UInt8) ∉ t := by
      intro t ht hb
      rcases ht with rfl | ht | ht
      · simp
      · cases t with
        | nil => simp
        | cons a r => simp at ht; subst ht; simp [begins, List.isPrefixOf] at hb
      · exact ht
    have hdrop : ∀ (t set : Bytes), mem set 35 = true → t.drop (index t set) = [] ∨ ∃ c r, t.drop (index t set) = c :: r ∧ mem set c = true := by
      intro t set hm
      by_cases hl : index t set < t.length
      · right
        refine ⟨t[index t set], _, List.drop_eq_getElem_cons hl, ?_⟩
        have := List.findIdx_getElem (p := fun c => mem set c) (xs := t) (w := hl)
        exact this
      · left; exact List.drop_eq_nil_of_le (by omega)
    refine h3 (sp4 s) ?_ h
    unfold sp4
    split
    · rcases hdrop (sp3 s) [35] rfl with he | ⟨c, r, he, hc⟩
      · left; exact he
      · right; left
        show ((sp3 s).drop (index (sp3 s) [35])).head? = _
        rw [he]; simp [mem] at hc; subst hc; rfl
    · rename_i hq
      have hq : spQ s = false := by simpa using hq
      rcases hdrop (sp2 s) [63, 35] rfl with he | ⟨c, r, he, hc⟩
      · left; exact he
      · right; left
        have he : sp3 s = c :: r := he
        rw [he]
        simp [mem] at hc
        rcases hc with rfl | rfl
        · unfold spQ at hq; rw [he] at hq; simp [begins, List.isPrefixOf] at hq
        · rfl
  have h3 : (35 : UInt8) ∉ sp3 s := by
    by_cases hq : spQ s = true
    · have e : sp4 s = (sp3 s).drop (index (sp3 s) [35]) := by unfold sp4; rw [if_pos hq]; rfl
      rw [← List.take_append_drop (index (sp3 s) [35]) (sp3 s), List.mem_append]
      rintro (hh | hh)
      · exact index_mem _ _ _ rfl hh
      · rw [← e] at hh; exact h4 hh
    · have e : sp4 s = sp3 s := by unfold sp4; rw [if_neg hq]
      rwa [e] at h4
  have h2 : (35 : UInt8) ∉ sp2 s := by
    rw [← List.take_append_drop (index (sp2 s) [63, 35]) (sp2 s), List.mem_append]
    rintro (hh | hh)
    · exact index_mem _ _ _ rfl hh
    · exact h3 hh
  have h1 : (35 : UInt8) ∉ sp1 s := by
    by_cases ha : spA s = true
    · have e : sp2 s = ((sp1 s).drop 2).drop (index ((sp1 s).drop 2) [47, 63, 35]) := by unfold sp2; rw [if_pos ha]; rfl
      have hd : (35 : UInt8) ∉ (sp1 s).drop 2 := by
        rw [← List.take_append_drop (index ((sp1 s).drop 2) [47, 63, 35]) ((sp1 s).drop 2), List.mem_append]
        rintro (hh | hh)
        · exact index_mem _ _ _ rfl hh
        · rw [← e] at hh; exact h2 hh
      have hb : sp1 s = [47, 47] ++ (sp1 s).drop 2 := by
        have : begins (sp1 s) [47, 47] = true := ha
        obtain ⟨r, hr⟩ := List.isPrefixOf_iff_prefix.1 this
        rw [← hr]; simp
      rw [hb]; simp only [List.mem_append]
      rintro (hh | hh)
      · revert hh; decide
      · exact hd hh
    · have e : sp2 s = sp1 s := by unfold sp2; rw [if_neg ha]
      rwa [e] at h2
  by_cases hs : spS s = true
  · have e : sp1 s = s.drop (index s [58, 47, 63, 35] + 1) := by unfold sp1; rw [if_pos hs]; rfl
    rw [← List.take_append_drop (index s [58, 47, 63, 35]) s, List.mem_append]
    rintro (hh | hh)
    · exact index_mem _ _ _ rfl hh
    · have hk := hs
      unfold spS at hk
      simp only [Bool.and_eq_true, decide_eq_true_eq, beq_iff_eq] at hk
      obtain ⟨⟨_, hl⟩, hh58⟩ := hk
      unfold spI at hl hh58
      rw [List.drop_eq_getElem_cons hl] at hh hh58
      rw [← e] at hh
      rcases List.mem_cons.1 hh with hh | hh
      · rw [List.head?_cons] at hh58
        rw [← hh] at hh58; cases hh58
      · exact h1 hh
  · have e : sp1 s = s := by unfold sp1; rw [if_neg hs]
    rwa [e] at h1
theorem cutB_none (c : UInt8) (s : Bytes) (h : c ∉ s) : cutB [c] s = s ∧ cutA [c] s = [] := by
  have : fsub [c] s = -1 := by
    induction s with
    | nil => rfl
    | cons d r ih =>
      simp at h
      rw [fsub_one_cons, ih h.2, if_neg (by simpa using fun e => h.1 e.symm)]; rfl
  unfold cutB cutA; rw [this]; exact ⟨rfl, rfl⟩
theorem cutB_some (c : UInt8) (a b : Bytes) (h : c ∉ a) : cutB [c] (a ++ c :: b) = a ∧ cutA [c] (a ++ c :: b) = b := by
  have : fsub [c] (a ++ c :: b) = a.length := by
    induction a with
    | nil => rw [List.nil_append, fsub_one_cons, if_pos (by simp)]; rfl
    | cons d r ih =>
      simp at h
      rw [List.cons_append, fsub_one_cons, ih h.2, if_neg (by simpa using fun e => h.1 e.symm), if_neg (by omega)]; simp
  unfold cutB cutA; rw [this, if_neg (by omega), if_neg (by omega), Int.toNat_natCast]
  refine ⟨by simp, ?_⟩
  rw [show a.length + [c].length = a.length + 1 from rfl, List.drop_append]; simp
theorem first_split (c : UInt8) (b : Bytes) (h : c ∈ b) : ∃ x y, b = x ++ c :: y ∧ c ∉ x := by
  induction b with
  | nil => cases h
  | cons d r ih =>
    by_cases hd : d = c
    · subst hd; exact ⟨[], r, rfl, by simp⟩
    · have hr : c ∈ r := by
        rcases List.mem_cons.1 h with e | e
        · exact absurd e.symm hd
        · exact e
      obtain ⟨x, y, e, hx⟩ := ih hr
      exact ⟨d :: x, y, by rw [e]; rfl, by simp; exact ⟨fun e => hd e.symm, hx⟩⟩
theorem cutB_pre (c : UInt8) (a b : Bytes) (h : c ∉ a) : cutB [c] (a ++ b) = a ++ cutB [c] b := by
  by_cases hb : c ∈ b
  · obtain ⟨x, y, rfl, hx⟩ := first_split c b hb
    have hax : c ∉ a ++ x := by simp [h, hx]
    rw [← List.append_assoc, (cutB_some c (a ++ x) y hax).1, (cutB_some c x y hx).1]
  · rw [(cutB_none c b hb).1, (cutB_none c (a ++ b) (by simp [h, hb])).1]
/-- A control character ahead of the fragment is refused. -/
theorem parse_control (a b : Bytes) (c : UInt8) (ha : spF a = false) (hc : isCtl c = true) : ctl (cutB [35] (a ++ c :: b)) = true ∧ parse (a ++ c :: b) = none := by
  have h35 : c ≠ 35 := by rintro rfl; exact absurd hc (by decide)
  have e : cutB [35] (a ++ c :: b) = a ++ c :: cutB [35] b := by
    have := cutB_pre 35 (a ++ [c]) b (by simp [spF_no a ha, Ne.symm h35])
    simpa using this
  have hct : ctl (cutB [35] (a ++ c :: b)) = true := by
    rw [e]; unfold ctl; simp [hc]
  refine ⟨hct, ?_⟩
  rw [parse, parse0, if_pos hct]
theorem ctl_mask (c : UInt8) : isCtl (if 31 < (c &&& 63).toNat then 127 else c &&& 63) = true := by
  have := all_u8 (fun c => isCtl (if 31 < (c &&& 63).toNat then 127 else c &&& 63)) (by decide +kernel) c
  exact this
/-- Which bytes an element in escaped form has. -/
def eok (c : UInt8) : Bool := unreserved c || c == 47 || c == 37
theorem elem1_ok (c : UInt8) : (elem1 c).all eok = true := by
  have := all_u8 (fun c => (elem1 c).all eok) (by decide +kernel) c
  exact this
theorem elem_ok (s : Bytes) : ∀ c ∈ elem s, eok c = true := by
  induction s with
  | nil => intro c hc; cases hc
  | cons d r ih =>
    intro c hc
    rw [elem] at hc
    rcases List.mem_append.1 hc with h | h
    · exact List.all_eq_true.1 (elem1_ok d) c h
    · exact ih c h
theorem eok_not (c : UInt8) (h : eok c = true) : c ≠ 35 ∧ c ≠ 63 ∧ isCtl c = false := by
  have := all_u8 (fun c => !eok c || (c != 35 && c != 63 && !isCtl c)) (by decide +kernel) c
  simpa [h, and_assoc] using this
/-- An element, a percent sign, an element. -/
def bp (a b : Bytes) : Bytes := elem a ++ 37 :: elem b
theorem bp_ok (a b : Bytes) : ∀ c ∈ bp a b, eok c = true := by
  intro c hc
  unfold bp at hc
  rcases List.mem_append.1 hc with h | h
  · exact elem_ok a c h
  · rcases List.mem_cons.1 h with rfl | h
    · decide
    · exact elem_ok b c h
theorem dec_pre (p t : Bytes) (h : ∀ c ∈ p, c ≠ 37) : dec false (p ++ t) = (dec false t).map (p ++ ·) := by
  induction p with
  | nil => simp
  | cons c r ih =>
    rw [List.cons_append, dec_other _ _ _ (h c (by simp)), ih (fun d hd => h d (by simp [hd])), Option.map_map]; rfl
theorem cnt_zero (c : UInt8) (s : Bytes) (h : c ∉ s) : cnt c s = 0 := by
  induction s with
  | nil => rfl
  | cons d r ih =>
    simp at h
    rw [cnt_cons, ih h.2, if_neg (by simpa using fun e => h.1 e.symm)]
def httpA : Bytes := [104, 116, 116, 112, 58, 47, 47, 97, 47]
theorem parse0_elem (t : Bytes) (h : ∀ c ∈ t, eok c = true) :
    parse0 (httpA ++ t) false = (dec false t).map (fun x => { scheme := [104, 116, 116, 112], host := [97], path := 47 :: x, rawpath := if 47 :: t = esc 1 (47 :: x) then [] else 47 :: t }) := by
  have hct : ctl (httpA ++ t) = false := by
    unfold ctl
    rw [List.any_append, show httpA.any isCtl = false from rfl, Bool.false_or, List.any_eq_false]
    intro c hc
    simp [(eok_not c (h c hc)).2.2]
  have hg : gsc 0 (httpA ++ t) = 4 := gsc_zero 104 [116, 116, 112] (47 :: 47 :: 97 :: 47 :: t) (by decide) (by decide)
  have hS : gsS (httpA ++ t) = [104, 116, 116, 112] := by unfold gsS; rw [hg]; rfl
  have hR : gsR (httpA ++ t) = 47 :: 47 :: 97 :: 47 :: t := by unfold gsR; rw [hg]; rfl
  have h63 : (63 : UInt8) ∉ (47 :: 47 :: 97 :: 47 :: t : Bytes) := by
    simp
    intro hc; exact (eok_not _ (h _ hc)).2.1 rfl
  have hpq : pq (47 :: 47 :: 97 :: 47 :: t) = false := by unfold pq; rw [cnt_zero 63 _ h63]; simp
  have hpr : pRest (47 :: 47 :: 97 :: 47 :: t) = 47 :: 47 :: 97 :: 47 :: t := by unfold pRest; rw [hpq, (cutB_none 63 _ h63).1]; rfl
  have hpy : pQuery (47 :: 47 :: 97 :: 47 :: t) = [] := by unfold pQuery; rw [hpq, (cutB_none 63 _ h63).2]; rfl
  have hfs : fsub [47] (97 :: 47 :: t) = 1 := by rw [fsub_one_cons, fsub_one_cons]; rfl
  have hau : authOf (47 :: 47 :: 97 :: 47 :: t) = [97] := by
    show cutB [47] (97 :: 47 :: t) = _
    unfold cutB; rw [hfs]; rfl
  have hre : restOf (47 :: 47 :: 97 :: 47 :: t) = 47 :: t := by
    show (if fsub [47] (97 :: 47 :: t) < 0 then [] else (97 :: 47 :: t : Bytes).drop (fsub [47] (97 :: 47 :: t)).toNat) = _
    rw [hfs]; rfl
  have hpa : parseAuth [104, 116, 116, 112] [97] = some (none, [97]) := by decide +kernel
  unfold parse0
  rw [hct, hg, hS, hR, hpq, hpr, hpy]
  rw [if_neg (by decide), if_neg (by simp [httpA]), if_neg (by simp [httpA]), if_neg (by decide)]
  have hl : lower [104, 116, 116, 112] = [104, 116, 116, 112] := by decide
  simp only [hl]
  rw [if_neg (by simp [begins, List.isPrefixOf])]
  unfold parse1
  rw [if_pos (by simp [begins, List.isPrefixOf])]
  simp only [hau, hre, hpa]
  unfold setPath
  rw [dec_other _ _ _ (by decide), Option.map_map]
  cases dec false t <;> rfl
theorem auth_elem (t : Bytes) (h : ∀ c ∈ t, eok c = true) : authOf (pRest (gsR (httpA ++ t))) = [97] := by
  have hg : gsc 0 (httpA ++ t) = 4 := gsc_zero 104 [116, 116, 112] (47 :: 47 :: 97 :: 47 :: t) (by decide) (by decide)
  have hR : gsR (httpA ++ t) = 47 :: 47 :: 97 :: 47 :: t := by unfold gsR; rw [hg]; rfl
  have h63 : (63 : UInt8) ∉ (47 :: 47 :: 97 :: 47 :: t : Bytes) := by
    simp
    intro hc; exact (eok_not _ (h _ hc)).2.1 rfl
  have hpq : pq (47 :: 47 :: 97 :: 47 :: t) = false := by unfold pq; rw [cnt_zero 63 _ h63]; simp
  have hpr : pRest (47 :: 47 :: 97 :: 47 :: t) = 47 :: 47 :: 97 :: 47 :: t := by unfold pRest; rw [hpq, (cutB_none 63 _ h63).1]; rfl
  have hfs : fsub [47] (97 :: 47 :: t) = 1 := by rw [fsub_one_cons, fsub_one_cons]; rfl
  rw [hR, hpr]
  show cutB [47] (97 :: 47 :: t) = _
  unfold cutB; rw [hfs]; rfl
theorem bp_no35 (a b : Bytes) : (35 : UInt8) ∉ httpA ++ bp a b := by
  rw [List.mem_append]
  rintro (h | h)
  · revert h; decide
  · exact (eok_not _ (bp_ok a b _ h)).1 rfl
theorem bad_path (a b : Bytes) : parse (httpA ++ bp a b) = (dec false (bp a b)).map (fun x => { scheme := [104, 116, 116, 112], host := [97], path := 47 :: x, rawpath := if 47 :: bp a b = esc 1 (47 :: x) then [] else 47 :: bp a b }) ∧
    (dec false (httpA ++ bp a b)).isSome = (dec false (bp a b)).isSome := by
  have h35 : (35 : UInt8) ∉ httpA ++ bp a b := by
    rw [List.mem_append]
    rintro (h | h)
    · revert h; decide
    · exact (eok_not _ (bp_ok a b _ h)).1 rfl
  constructor
  · unfold parse
    rw [(cutB_none 35 _ h35).1, (cutB_none 35 _ h35).2, parse0_elem _ (bp_ok a b)]
    cases dec false (bp a b) <;> rfl
  · rw [dec_pre _ _ (by decide)]; cases dec false (bp a b) <;> rfl
theorem bad_frag (a b : Bytes) : parse (httpA ++ 35 :: bp a b) = (dec false (bp a b)).map (fun x => { scheme := [104, 116, 116, 112], host := [97], path := [47], frag := x, rawfrag := if bp a b = esc 64 x then [] else bp a b }) ∧
    (dec false (httpA ++ 35 :: bp a b)).isSome = (dec false (bp a b)).isSome := by
  have hcut := cutB_some 35 httpA (bp a b) (by decide)
  constructor
  · unfold parse
    rw [hcut.1, hcut.2]
    have h0 : parse0 httpA false = some { scheme := [104, 116, 116, 112], host := [97], path := [47] } := by
      have := parse0_elem [] (by simp)
      rw [List.append_nil] at this
      rw [this]
      show some _ = some _
      congr 1
    rw [h0]
    simp only
    rw [if_neg (by unfold bp; simp)]
    unfold setFrag
    rfl
  · have := dec_pre (httpA ++ [35]) (bp a b) (by decide)
    rw [List.append_assoc] at this
    rw [show httpA ++ 35 :: bp a b = httpA ++ ([35] ++ bp a b) from rfl, this]; cases dec false (bp a b) <;> rfl
/-- Sizes of what is parsed. -/
theorem setPath_sz {u v : PU} {p : Bytes} (h : setPath u p = some v) : v.path.length ≤ p.length ∧ v.rawpath.length ≤ p.length ∧ v.frag = u.frag ∧ v.rawfrag = u.rawfrag ∧ v.user = u.user := by
  unfold setPath at h
  obtain ⟨x, hx, rfl⟩ := Option.map_eq_some_iff.1 h
  have := dec_len false _ p x (Nat.le_refl _) hx
  refine ⟨this, ?_, rfl, rfl, rfl⟩
  show (if p = esc 1 x then [] else p : Bytes).length ≤ _
  split <;> simp
theorem restOf_len (r : Bytes) : (restOf r).length ≤ r.length := by
  unfold restOf; split
  · simp
  · simp only [List.length_drop]; omega
theorem parse1_sz {u v : PU} {r : Bytes} {via : Bool} (h : parse1 u r via = some v) (hf : u.frag = []) (hr : u.rawfrag = []) : v.path.length ≤ r.length ∧ v.rawpath.length ≤ r.length ∧ v.frag = [] ∧ v.rawfrag = [] := by
  unfold parse1 at h
  split at h
  · cases hp : parseAuth u.scheme (authOf r) with
    | none => rw [hp] at h; cases h
    | some x =>
      rw [hp] at h
      have := setPath_sz h
      have hl := restOf_len r
      exact ⟨by omega, by omega, this.2.2.1.trans hf, this.2.2.2.1.trans hr⟩
  · have := setPath_sz h
    exact ⟨this.1, this.2.1, this.2.2.1.trans hf, this.2.2.2.1.trans hr⟩
theorem parse0_sz {raw : Bytes} {via : Bool} {v : PU} (h : parse0 raw via = some v) : v.path.length ≤ raw.length ∧ v.rawpath.length ≤ raw.length ∧ v.frag = [] ∧ v.rawfrag = [] := by
  have hl : (pRest (gsR raw)).length ≤ raw.length := Nat.le_trans (pRest_len _) (gsR_len _)
  unfold parse0 at h
  split at h
  · cases h
  split at h
  · cases h
  split at h
  · rename_i he
    cases h; rw [he]; simp
  split at h
  · cases h
  simp only at h
  split at h
  · split at h
    · cases h; simp
    · split at h
      · cases h
      · split at h
        · cases h
        · have := parse1_sz h rfl rfl; exact ⟨by omega, by omega, this.2.2⟩
  · have := parse1_sz h rfl rfl; exact ⟨by omega, by omega, this.2.2⟩
theorem parse_sz {raw : Bytes} {v : PU} (h : parse raw = some v) : v.path.length ≤ raw.length ∧ v.rawpath.length ≤ raw.length ∧ v.frag.length ≤ raw.length ∧ v.rawfrag.length ≤ raw.length := by
  unfold parse at h
  have h1 := cutB_len [35] raw
  have h2 := cutA_len [35] raw
  cases h0 : parse0 (cutB [35] raw) false with
  | none => rw [h0] at h; cases h
  | some u =>
    rw [h0] at h
    have hs := parse0_sz h0
    simp only at h
    split at h
    · cases h; exact ⟨by omega, by omega, by rw [hs.2.2.1]; simp, by rw [hs.2.2.2]; simp⟩
    · unfold setFrag at h
      obtain ⟨x, hx, rfl⟩ := Option.map_eq_some_iff.1 h
      have := dec_len false _ _ x (Nat.le_refl _) hx
      refine ⟨by simpa using (by omega : u.path.length ≤ raw.length), by simpa using (by omega : u.rawpath.length ≤ raw.length), by simpa using (by omega : x.length ≤ raw.length), ?_⟩
      show (if cutA [35] raw = esc 64 x then [] else cutA [35] raw : Bytes).length ≤ _
      split
      · simp
      · omega
end NU
