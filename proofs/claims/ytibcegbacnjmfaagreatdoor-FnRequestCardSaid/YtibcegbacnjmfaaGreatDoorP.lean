/-
  Plain Lean: the lists of bytes that the program computes.
  Plain Lean: the reference's functions on lists of bytes.
  Plain Lean: the reference's functions on addresses.
  Plain Lean: where a scheme ends.
  Plain Lean: the parts of a reference by the expression of RFC 3986, appendix B.
  Plain Lean: an authority, and which references are valid.
  Plain Lean: the law on schemes: of a valid reference getScheme and the expression of appendix B find the same scheme.
  Plain Lean: user information; a host and its port.
  Plain Lean: the table of the escapes; decoding.
  Plain Lean: escaping.
  Plain Lean: resolving a path; the package's way and the reference's way answer alike.
  Plain Lean: what escaping gives is a segment, a setting, a path, a fragment; which hints are valid.
  Plain Lean: what the package's parsing and writing of a URL compute.
  Plain Lean: small facts on counting and on small letters.
  Plain Lean: control characters ahead of the fragment; percent signs in a path or a fragment.
-/
namespace NU
set_option linter.unusedVariables false
set_option linter.unusedSimpArgs false
abbrev Bytes := List UInt8
def isDigit (c : UInt8) : Bool := decide (48 ≤ c.toNat) && decide (c.toNat ≤ 57)
def isAlpha (c : UInt8) : Bool := decide (97 ≤ c.toNat) && decide (c.toNat ≤ 122) || decide (65 ≤ c.toNat) && decide (c.toNat ≤ 90)
def hexv (c : UInt8) : Int :=
  if isDigit c then (c.toNat : Int) - 48
  else if 97 ≤ c.toNat ∧ c.toNat ≤ 102 then (c.toNat : Int) - 87
  else if 65 ≤ c.toNat ∧ c.toNat ≤ 70 then (c.toNat : Int) - 55
  else -1
def mem (l : Bytes) (c : UInt8) : Bool := l.any (fun d => c == d)
def index (s set : Bytes) : Nat := s.findIdx (fun c => mem set c)
def unreserved (c : UInt8) : Bool := isAlpha c || isDigit c || mem [45, 46, 95, 126] c
def begins (s p : Bytes) : Bool := p.isPrefixOf s
def allDigits (s : Bytes) : Bool := s.all isDigit
def chars (more : Bytes) (percent : Bool) : Bytes → Bool
  | [] => true
  | c :: r =>
    if c = 37 then
      match r with
      | a :: b :: r' => percent && decide (0 ≤ hexv a) && decide (0 ≤ hexv b) && chars more percent r'
      | _ => false
    else (unreserved c || mem [33, 36, 38, 39, 40, 41, 42, 43, 44, 59, 61] c || mem more c) && chars more percent r

theorem hexv_lo (c : UInt8) : -1 ≤ hexv c := by
  unfold hexv isDigit; (repeat' split)
  · rename_i h; simp at h; omega
  all_goals omega
theorem hexv_hi (c : UInt8) : hexv c ≤ 15 := by
  unfold hexv isDigit; (repeat' split)
  · rename_i h; simp at h; omega
  all_goals omega
theorem index_le (s t : Bytes) : index s t ≤ s.length := List.findIdx_le_length
theorem mem_cons (d : UInt8) (l : Bytes) (c : UInt8) : mem (d :: l) c = (c == d || mem l c) := by simp [mem]
theorem mem_nil (c : UInt8) : mem [] c = false := rfl
theorem index_nil (t : Bytes) : index [] t = 0 := rfl
theorem index_cons (c : UInt8) (s t : Bytes) : index (c :: s) t = if mem t c then 0 else index s t + 1 := by
  simp only [index, List.findIdx_cons]; cases mem t c <;> rfl
theorem mem_index (s : Bytes) (c : UInt8) : mem s c = decide (index s [c] < s.length) := by
  induction s with
  | nil => rfl
  | cons d s ih =>
    rw [mem_cons, index_cons, mem_cons, mem_nil, Bool.or_false, ih, show (c == d) = (d == c) from Bool.beq_comm]
    cases d == c <;> simp
theorem chars_nil (m : Bytes) (p : Bool) : chars m p [] = true := by simp [chars]
theorem chars_pct (m : Bytes) (p : Bool) (a b : UInt8) (r : Bytes) :
    chars m p (37 :: a :: b :: r) = (p && decide (0 ≤ hexv a) && decide (0 ≤ hexv b) && chars m p r) := by simp [chars]
theorem chars_short (m : Bytes) (p : Bool) (r : Bytes) (h : r.length < 2) : chars m p (37 :: r) = false := by
  match r, h with
  | [], _ => simp [chars]
  | [a], _ => simp [chars]
theorem chars_false (m : Bytes) (r : Bytes) : chars m false (37 :: r) = false := by
  match r with
  | [] => simp [chars]
  | [a] => simp [chars]
  | a :: b :: r => simp [chars]
theorem chars_other (m : Bytes) (p : Bool) (c : UInt8) (r : Bytes) (h : (c == 37) = false) :
    chars m p (c :: r) = ((unreserved c || mem [33, 36, 38, 39, 40, 41, 42, 43, 44, 59, 61] c || mem m c) && chars m p r) := by
  have h' : ¬ c = 37 := by simpa using h
  match r with
  | [] => simp [chars, h']
  | [a] => simp [chars, h']
  | a :: b :: r => rw [chars, if_neg h']
def isScheme (s : Bytes) : Bool :=
  match s with
  | [] => false
  | c :: r => isAlpha c && r.all (fun d => isAlpha d || isDigit d || mem [43, 45, 46] d)

/-- Where a text first stands in another, or -1. -/
def fsub (t : Bytes) : Bytes → Int
  | [] => if t.isEmpty then 0 else -1
  | c :: r => if t.isPrefixOf (c :: r) then 0 else if fsub t r < 0 then -1 else fsub t r + 1
theorem fsub_lo (t s : Bytes) : -1 ≤ fsub t s := by
  induction s with
  | nil => unfold fsub; split <;> omega
  | cons c r ih => unfold fsub; split; omega; split <;> omega
theorem fsub_hi (t s : Bytes) : fsub t s + t.length ≤ s.length ∨ fsub t s = -1 := by
  induction s with
  | nil =>
    unfold fsub; split
    · rename_i h; left; simp at h; simp [h]
    · right; rfl
  | cons c r ih =>
    unfold fsub; split
    · rename_i h; left
      have := (List.isPrefixOf_iff_prefix.1 h).length_le; simp at this ⊢; omega
    · split
      · right; rfl
      · left; simp; omega
def cutB (t s : Bytes) : Bytes := if fsub t s < 0 then s else s.take (fsub t s).toNat
def cutA (t s : Bytes) : Bytes := if fsub t s < 0 then [] else s.drop ((fsub t s).toNat + t.length)
def cutF (t s : Bytes) : Bool := decide (0 ≤ fsub t s)
theorem fsub_one_nil (c : UInt8) : fsub [c] [] = -1 := rfl
theorem fsub_one_cons (c d : UInt8) (r : Bytes) : fsub [c] (d :: r) = if d == c then 0 else if fsub [c] r < 0 then -1 else fsub [c] r + 1 := by
  rw [fsub]; simp only [List.isPrefixOf, Bool.and_true]; rw [show (c == d) = (d == c) from Bool.beq_comm]

/-- Where a byte last stands in a text, or -1. -/
def lastIdx (c : UInt8) : Bytes → Int
  | [] => -1
  | d :: r => if 0 ≤ lastIdx c r then lastIdx c r + 1 else if d == c then 0 else -1
theorem lastIdx_lo (c : UInt8) (s : Bytes) : -1 ≤ lastIdx c s := by
  induction s with
  | nil => simp [lastIdx]
  | cons d r ih => unfold lastIdx; split; omega; split <;> omega
theorem lastIdx_hi (c : UInt8) (s : Bytes) : lastIdx c s < s.length := by
  induction s with
  | nil => simp [lastIdx]
  | cons d r ih => unfold lastIdx; simp only [List.length_cons]; split; omega; split <;> omega
theorem lastIdx_snoc (c d : UInt8) (s : Bytes) : lastIdx c (s ++ [d]) = if d == c then (s.length : Int) else lastIdx c s := by
  induction s with
  | nil => simp [lastIdx]
  | cons a s ih =>
    have hl := lastIdx_lo c s
    simp only [List.cons_append, lastIdx, ih, List.length_cons]
    by_cases h : (d == c) = true
    · simp only [h, if_true]; rw [if_pos (by omega)]; omega
    · simp only [h]; simp only [Bool.false_eq_true, if_false]

/-- A port is nothing, or a colon and digits. -/
def optPort (l : Bytes) : Bool := match l with | [] => true | c :: r => c == 58 && allDigits r
def uiOk (c : UInt8) : Bool := isAlpha c || isDigit c || mem [45, 46, 95, 58, 126, 33, 36, 38, 39, 40, 41, 42, 43, 44, 59, 61, 37, 64] c
def validUserinfo (l : Bytes) : Bool := l.all uiOk
def dv (a : Int) : Bytes → Int
  | [] => a
  | c :: r => dv (a * 10 + ((c.toNat : Int) - 48)) r
def v4d (d : Bytes) : Bool :=
  !decide (d.length = 0) && !decide (3 < d.length) && !(decide (1 < d.length) && (d.head? == some 48)) && allDigits d && decide (dv 0 d ≤ 255)
def v4go : Nat → Bytes → Bool
  | 0, s => s.isEmpty
  | r + 1, s => v4d (s.take (index s [46])) && (decide (index s [46] < s.length) == decide (0 < r)) && v4go r (s.drop (index s [46] + 1))
def isIPv4 (s : Bytes) : Bool := v4go 4 s
def isHex (c : UInt8) : Bool := decide (0 ≤ hexv c)
def pcs (last : Bool) : Nat → Nat → Bytes → Int
  | 0, _, _ => -1
  | f + 1, n, s =>
    if index s [58] = s.length ∧ last = true ∧ isIPv4 (s.take (index s [58])) = true then (n : Int) + 2
    else if index s [58] = 0 ∨ 4 < index s [58] then -1
    else if (s.take (index s [58])).all isHex = false then -1
    else if index s [58] = s.length then (n : Int) + 1
    else pcs last f (n + 1) (s.drop (index s [58] + 1))
def pieces (s : Bytes) (last : Bool) : Int := if s = [] then 0 else pcs last (s.length + 1) 0 s
theorem pcs_lo (last : Bool) (f n : Nat) (s : Bytes) : -1 ≤ pcs last f n s := by
  induction f generalizing n s with
  | zero => simp [pcs]
  | succ f ih => unfold pcs; (repeat' split) <;> first | omega | exact ih _ _
theorem pcs_hi (last : Bool) (f n : Nat) (s : Bytes) : pcs last f n s ≤ n + s.length + 2 := by
  induction f generalizing n s with
  | zero => simp [pcs]; omega
  | succ f ih =>
    unfold pcs
    (repeat' split)
    all_goals try omega
    have h1 := ih (n + 1) (s.drop (index s [58] + 1))
    have h2 := index_le s [58]
    simp only [List.length_drop] at h1
    omega
theorem pieces_lo (s : Bytes) (last : Bool) : -1 ≤ pieces s last := by unfold pieces; split; omega; exact pcs_lo _ _ _ _
theorem pieces_hi (s : Bytes) (last : Bool) : pieces s last ≤ s.length + 2 := by
  unfold pieces; split
  · omega
  · have := pcs_hi last (s.length + 1) 0 s; omega
def isIPv6 (s : Bytes) : Bool :=
  if fsub [58, 58] s < 0 then decide (pieces s true = 8)
  else decide (0 ≤ pieces (s.take (fsub [58, 58] s).toNat) false) && decide (0 ≤ pieces (s.drop ((fsub [58, 58] s).toNat + 2)) true) &&
    decide (pieces (s.take (fsub [58, 58] s).toNat) false + pieces (s.drop ((fsub [58, 58] s).toNat + 2)) true ≤ 7)
theorem fsub_dbl (c d : UInt8) (r : Bytes) : fsub [58, 58] (c :: d :: r) = if (c == 58 && d == 58) = true then 0 else if fsub [58, 58] (d :: r) < 0 then -1 else fsub [58, 58] (d :: r) + 1 := by
  rw [fsub]; simp only [List.isPrefixOf, Bool.and_true]
  rw [show ((58 : UInt8) == c) = (c == 58) from Bool.beq_comm, show ((58 : UInt8) == d) = (d == 58) from Bool.beq_comm]
theorem fsub_short (r : Bytes) (h : r.length < 2) : fsub [58, 58] r = -1 := by
  match r, h with
  | [], _ => rfl
  | [a], _ => simp [fsub, List.isPrefixOf]
/-- What a sum of digits is, place by place. -/
def dvb (j : Nat) (v : Int) : Prop := 0 ≤ v ∧ v ≤ 999 ∧ (j ≤ 2 → v ≤ 99) ∧ (j ≤ 1 → v ≤ 9) ∧ (j = 0 → v = 0)
theorem dvb_zero : dvb 0 0 := by unfold dvb; omega
theorem dvb_lo {j : Nat} {v : Int} (h : dvb j v) : 0 ≤ v := h.1
theorem dvb_hi {j : Nat} {v : Int} (h : dvb j v) : v ≤ 999 := h.2.1
theorem dvb_step {j : Nat} {v c : Int} (h : dvb j v) (hj : j < 3) (h0 : 48 ≤ c) (h1 : c ≤ 57) : dvb (j + 1) (v * 10 + (c - 48)) := by unfold dvb at *; omega
theorem allDigits_cons (c : UInt8) (r : Bytes) : allDigits (c :: r) = (isDigit c && allDigits r) := by simp [allDigits]
/-- A scheme's letters: the first is a letter. -/
def sgo : Bool → Bytes → Bool
  | _, [] => true
  | first, c :: r => (isAlpha c || !first && (isDigit c || mem [43, 45, 46] c)) && sgo false r
def schm (s : Bytes) : Bool := sgo true s && !s.isEmpty
/-- Where the colon behind a scheme stands; -1: there is no scheme; -2: the text opens with a colon. -/
def gsc : Nat → Bytes → Int
  | _, [] => -1
  | i, c :: r =>
    if isAlpha c then gsc (i + 1) r
    else if isDigit c || mem [43, 45, 46] c then (if i = 0 then -1 else gsc (i + 1) r)
    else if c = 58 then (if i = 0 then -2 else (i : Int))
    else -1
def gsS (l : Bytes) : Bytes := if 0 ≤ gsc 0 l then l.take (gsc 0 l).toNat else []
def gsR (l : Bytes) : Bytes := if 0 ≤ gsc 0 l then l.drop ((gsc 0 l).toNat + 1) else l
theorem gsc_nil (i : Nat) : gsc i [] = -1 := rfl
theorem gsc_alpha {c : UInt8} (i : Nat) (r : Bytes) (h : isAlpha c = true) : gsc i (c :: r) = gsc (i + 1) r := by rw [gsc, if_pos h]
theorem gsc_digit {c : UInt8} (i : Nat) (r : Bytes) (h : isAlpha c = false) (h' : (isDigit c || mem [43, 45, 46] c) = true) (hi : i ≠ 0) : gsc i (c :: r) = gsc (i + 1) r := by
  rw [gsc, if_neg (by simp [h]), if_pos h', if_neg hi]
theorem gsc_digit0 {c : UInt8} (r : Bytes) (h : isAlpha c = false) (h' : (isDigit c || mem [43, 45, 46] c) = true) : gsc 0 (c :: r) = -1 := by
  rw [gsc, if_neg (by simp [h]), if_pos h', if_pos rfl]
theorem gsc_colon (i : Nat) (r : Bytes) (hi : i ≠ 0) : gsc i (58 :: r) = i := by
  rw [gsc, if_neg (by decide), if_neg (by decide), if_pos rfl, if_neg hi]
theorem gsc_colon0 (r : Bytes) : gsc 0 (58 :: r) = -2 := by
  rw [gsc, if_neg (by decide), if_neg (by decide), if_pos rfl, if_pos rfl]
theorem gsc_other {c : UInt8} (i : Nat) (r : Bytes) (h : isAlpha c = false) (h' : (isDigit c || mem [43, 45, 46] c) = false) (hc : c ≠ 58) : gsc i (c :: r) = -1 := by
  rw [gsc, if_neg (by simp [h]), if_neg (by simp at h'; simp [h']), if_neg hc]
def spI (s : Bytes) : Nat := index s [58, 47, 63, 35]
def spS (s : Bytes) : Bool := decide (0 < spI s) && decide (spI s < s.length) && ((s.drop (spI s)).head? == some 58)
def spScheme (s : Bytes) : Bytes := if spS s then s.take (spI s) else []
def sp1 (s : Bytes) : Bytes := if spS s then s.drop (spI s + 1) else s
def spA (s : Bytes) : Bool := begins (sp1 s) [47, 47]
def spAI (s : Bytes) : Nat := index ((sp1 s).drop 2) [47, 63, 35]
def spAuth (s : Bytes) : Bytes := if spA s then ((sp1 s).drop 2).take (spAI s) else []
def sp2 (s : Bytes) : Bytes := if spA s then ((sp1 s).drop 2).drop (spAI s) else sp1 s
def spPI (s : Bytes) : Nat := index (sp2 s) [63, 35]
def spPath (s : Bytes) : Bytes := (sp2 s).take (spPI s)
def sp3 (s : Bytes) : Bytes := (sp2 s).drop (spPI s)
def spQ (s : Bytes) : Bool := begins (sp3 s) [63]
def spQI (s : Bytes) : Nat := index (sp3 s) [35]
def spQuery (s : Bytes) : Bytes := if spQ s then ((sp3 s).drop 1).take (spQI s - 1) else []
def sp4 (s : Bytes) : Bytes := if spQ s then (sp3 s).drop (spQI s) else sp3 s
def spF (s : Bytes) : Bool := begins (sp4 s) [35]
def spFrag (s : Bytes) : Bytes := if spF s then (sp4 s).drop 1 else []
theorem sp1_le (s : Bytes) : (sp1 s).length ≤ s.length := by unfold sp1; split; simp; omega
theorem sp2_le (s : Bytes) : (sp2 s).length ≤ s.length := by have := sp1_le s; unfold sp2; split <;> simp <;> omega
theorem sp3_le (s : Bytes) : (sp3 s).length ≤ s.length := by have := sp2_le s; unfold sp3; simp; omega
theorem sp4_le (s : Bytes) : (sp4 s).length ≤ s.length := by have := sp3_le s; unfold sp4; split <;> simp <;> omega
def auI (s : Bytes) : Nat := index s [64]
def auU (s : Bytes) : Bool := decide (auI s < s.length)
def auUser (s : Bytes) : Bytes := if auU s then s.take (auI s) else []
def auRest (s : Bytes) : Bytes := if auU s then s.drop (auI s + 1) else s
def auUok (s : Bytes) : Bool := !auU s || chars [58] true (auUser s)
def auHost (s : Bytes) : Bytes := if auUok s then auRest s else []
def auHok (h : Bytes) : Bool :=
  if begins h [91] then decide (index h [93] < h.length) && isIPv6 ((h.take (index h [93])).drop 1)
  else chars [] false (h.take (index h [58]))
def auS (h : Bytes) : Bytes := if begins h [91] then h.drop (index h [93] + 1) else h.drop (index h [58])
def auOk (s : Bytes) : Bool := auUok s && auHok (auRest s) && optPort (auS (auRest s))
theorem auRest_le (s : Bytes) : (auRest s).length ≤ s.length := by unfold auRest; split; simp; omega
theorem auUser_le (s : Bytes) : (auUser s).length ≤ s.length := by unfold auUser; split <;> simp; omega
theorem auS_le (s : Bytes) : (auS s).length ≤ s.length := by unfold auS; split <;> simp
def validR (hs : Bool) (sc : Bytes) (ha : Bool) (au pa qu fr : Bytes) : Bool :=
  !(hs && !schm sc) && chars [58, 64, 47] true pa && chars [58, 64, 47, 63] true qu && chars [58, 64, 47, 63] true fr &&
  (if ha then auOk au && (pa.isEmpty || pa.head? == some 47)
   else !begins pa [47, 47] && (hs || decide (index (pa.take (index pa [47])) [58] = index pa [47])))
def valid (s : Bytes) : Bool := validR (spS s) (spScheme s) (spA s) (spAuth s) (spPath s) (spQuery s) (spFrag s)
def sch (c : UInt8) : Bool := isAlpha c || isDigit c || mem [43, 45, 46] c
theorem gsc_pos (i : Nat) (hi : i ≠ 0) (pre rest : Bytes) (h : pre.all sch = true) : gsc i (pre ++ 58 :: rest) = (i + pre.length : Nat) := by
  induction pre generalizing i with
  | nil => simpa using gsc_colon i rest hi
  | cons c pre ih =>
    simp only [List.all_cons, Bool.and_eq_true] at h
    rw [List.cons_append]
    cases ha : isAlpha c
    · rw [gsc_digit i _ ha (by have := h.1; simp [sch, ha] at this; simpa using this) hi, ih (i + 1) (by omega) h.2]; simp; omega
    · rw [gsc_alpha i _ ha, ih (i + 1) (by omega) h.2]; simp; omega
theorem gsc_zero (c : UInt8) (pre rest : Bytes) (hc : isAlpha c = true) (h : pre.all sch = true) : gsc 0 (c :: pre ++ 58 :: rest) = (1 + pre.length : Nat) := by
  rw [List.cons_append, gsc_alpha 0 _ hc, gsc_pos 1 (by omega) pre rest h]
theorem gsc_inv (i : Nat) (s : Bytes) (k : Nat) (h : gsc i s = k) : ∃ pre rest, s = pre ++ 58 :: rest ∧ k = i + pre.length ∧ pre.all sch = true ∧ (i = 0 → pre ≠ []) := by
  induction s generalizing i with
  | nil => simp [gsc] at h
  | cons c r ih =>
    unfold gsc at h
    split at h
    · rename_i ha
      obtain ⟨pre, rest, h1, h2, h3, _⟩ := ih (i + 1) h
      exact ⟨c :: pre, rest, by rw [h1]; rfl, by simp; omega, by simp [sch, ha]; simpa [sch] using h3, fun _ => by simp⟩
    · rename_i ha
      split at h
      · rename_i hd
        split at h
        · omega
        · obtain ⟨pre, rest, h1, h2, h3, _⟩ := ih (i + 1) h
          exact ⟨c :: pre, rest, by rw [h1]; rfl, by simp; omega, by
            simp only [List.all_cons, Bool.and_eq_true]; exact ⟨by simp only [sch]; simp at hd ⊢; rcases hd with hd | hd <;> simp [hd], h3⟩, fun _ => by simp⟩
      · split at h
        · rename_i hc
          split at h
          · omega
          · exact ⟨[], r, by rw [hc]; rfl, by simp; omega, rfl, fun e => by omega⟩
        · omega
theorem gsc_inv2 (i : Nat) (s : Bytes) (h : gsc i s = -2) : i = 0 ∧ ∃ r, s = 58 :: r := by
  induction s generalizing i with
  | nil => simp [gsc] at h
  | cons c r ih =>
    unfold gsc at h
    split at h
    · have := (ih (i + 1) h).1; omega
    · split at h
      · split at h
        · omega
        · have := (ih (i + 1) h).1; omega
      · split at h
        · rename_i hc
          split at h
          · rename_i hi; exact ⟨hi, r, by rw [hc]⟩
          · omega
        · omega
theorem gsc_lo (i : Nat) (s : Bytes) : -2 ≤ gsc i s := by
  induction s generalizing i with
  | nil => simp [gsc]
  | cons c r ih => unfold gsc; (repeat' split) <;> first | omega | exact ih _
theorem index_pre (pre rest set : Bytes) (c : UInt8) (h : pre.all (fun d => !mem set d) = true) (hc : mem set c = true) : index (pre ++ c :: rest) set = pre.length := by
  induction pre with
  | nil => simp [index_cons, hc]
  | cons d pre ih =>
    simp only [List.all_cons, Bool.and_eq_true] at h
    rw [List.cons_append, index_cons, if_neg (by simpa using h.1), ih h.2]; rfl
theorem sch_not (c : UInt8) (h : sch c = true) : mem [58, 47, 63, 35] c = false := by
  cases hm : mem [58, 47, 63, 35] c with
  | false => rfl
  | true =>
    simp [mem] at hm
    rcases hm with rfl | rfl | rfl | rfl <;> revert h <;> decide
theorem all_sch_not (pre : Bytes) (h : pre.all sch = true) : pre.all (fun d => !mem [58, 47, 63, 35] d) = true := by
  simp only [List.all_eq_true] at h ⊢
  intro c hc; rw [sch_not c (h c hc)]; rfl
theorem sgo_false (r : Bytes) : sgo false r = r.all sch := by
  induction r with
  | nil => rfl
  | cons c r ih => simp only [sgo, ih, List.all_cons, sch]; simp [Bool.or_assoc]
theorem schm_cons (c : UInt8) (r : Bytes) : schm (c :: r) = (isAlpha c && r.all sch) := by simp [schm, sgo, sgo_false]
theorem take_index (s set : Bytes) : (s.take (index s set)).all (fun d => !mem set d) = true := by
  induction s with
  | nil => simp [index_nil]
  | cons c s ih =>
    rw [index_cons]
    split
    · simp
    · rename_i h; simp only [List.take_succ_cons, List.all_cons, Bool.and_eq_true]; exact ⟨by simpa using h, ih⟩
/-- A valid reference with a scheme. -/
theorem scheme_yes (s : Bytes) (hv : valid s = true) (h : spS s = true) : gsc 0 s = (spI s : Nat) := by
  have hsch : schm (spScheme s) = true := by
    unfold valid validR at hv
    simp only [h, Bool.true_and, Bool.not_not, Bool.and_eq_true] at hv
    exact hv.1.1.1.1
  have h1 : spScheme s = s.take (spI s) := by rw [spScheme, if_pos h]
  have h2 : 0 < spI s ∧ spI s < s.length ∧ (s.drop (spI s)).head? = some 58 := by
    have := h; unfold spS at this; simp only [Bool.and_eq_true, decide_eq_true_eq, beq_iff_eq] at this; exact ⟨this.1.1, this.1.2, this.2⟩
  obtain ⟨h3, h4, h5⟩ := h2
  have h6 : s = s.take (spI s) ++ 58 :: s.drop (spI s + 1) := by
    conv => lhs; rw [← List.take_append_drop (spI s) s]
    congr 1
    rw [List.drop_eq_getElem_cons h4] at h5 ⊢
    rw [List.head?_cons] at h5
    rw [Option.some.inj h5]
  match hp : s.take (spI s) with
  | [] =>
    have : (s.take (spI s)).length = 0 := by rw [hp]; rfl
    rw [List.length_take] at this; omega
  | c :: pre =>
    rw [h1, hp, schm_cons] at hsch
    simp only [Bool.and_eq_true] at hsch
    rw [hp] at h6
    have hl : (s.take (spI s)).length = spI s := by rw [List.length_take]; omega
    rw [hp] at hl
    simp only [List.length_cons] at hl
    rw [h6, gsc_zero c pre _ hsch.1 hsch.2, ← h6]; omega
theorem scheme_no (s : Bytes) (hv : valid s = true) (h : spS s = false) : gsc 0 s = -1 := by
  have hlo := gsc_lo 0 s
  by_cases h1 : gsc 0 s = -1
  · exact h1
  · exfalso
    by_cases h2 : gsc 0 s = -2
    · obtain ⟨_, r, hr⟩ := gsc_inv2 0 s h2
      have e1 : sp1 s = s := by rw [sp1, h]; rfl
      have e2 : spA s = false := by rw [spA, e1, hr]; rfl
      have e3 : sp2 s = s := by rw [sp2, e2, e1]; rfl
      have e4 : spPath s = 58 :: (s.drop 1).take (index r [63, 35]) := by
        rw [spPath, spPI, e3, hr, index_cons]; simp [mem]
      unfold valid validR at hv
      rw [h, e2] at hv
      simp only [Bool.and_eq_true, Bool.false_or, decide_eq_true_eq, Bool.false_eq_true, if_false] at hv
      have h3 := hv.2.2
      rw [e4, index_cons] at h3
      simp only [show mem [47] 58 = false from rfl, Bool.false_eq_true, if_false, List.take_succ_cons] at h3
      rw [index_cons] at h3
      simp [mem] at h3
    · obtain ⟨k, hk⟩ := Int.eq_ofNat_of_zero_le (show 0 ≤ gsc 0 s by omega)
      obtain ⟨pre, rest, e1, e2, e3, e4⟩ := gsc_inv 0 s k hk
      have e5 : spI s = pre.length := by rw [spI, e1]; exact index_pre pre rest _ 58 (all_sch_not pre e3) rfl
      have e6 : 0 < pre.length := List.length_pos_iff.2 (e4 rfl)
      have : spS s = true := by
        rw [spS, e5]
        have l1 : pre.length < s.length := by rw [e1]; simp
        have l2 : (s.drop pre.length).head? = some 58 := by rw [e1]; simp
        simp [l1, l2]; omega
      rw [h] at this; cases this
theorem uiOk_eq (c : UInt8) : uiOk c = (unreserved c || mem [33, 36, 38, 39, 40, 41, 42, 43, 44, 59, 61, 58, 37, 64] c) := by
  rw [Bool.eq_iff_iff]; simp [uiOk, unreserved, mem]; grind
theorem uiOk_hex (c : UInt8) (h : 0 ≤ hexv c) : uiOk c = true := by
  have : isAlpha c = true ∨ isDigit c = true := by
    unfold hexv at h
    by_cases h1 : isDigit c = true
    · exact .inr h1
    · rw [if_neg h1] at h
      left
      unfold isAlpha
      split at h
      · simp; omega
      · split at h
        · simp; omega
        · omega
  rcases this with h | h <;> simp [uiOk, h]
theorem chars_uiOk (n : Nat) (s : Bytes) (hn : s.length ≤ n) (h : chars [58] true s = true) : s.all uiOk = true := by
  induction n generalizing s with
  | zero => have : s = [] := List.eq_nil_of_length_eq_zero (by omega); rw [this]; rfl
  | succ n ih =>
    match s with
    | [] => rfl
    | c :: r =>
      by_cases hc : c = 37
      · subst hc
        match r with
        | [] => simp [chars] at h
        | [a] => simp [chars] at h
        | a :: b :: r' =>
          rw [chars_pct] at h
          simp only [Bool.true_and, Bool.and_eq_true, decide_eq_true_eq] at h
          simp only [List.length_cons] at hn
          simp only [List.all_cons, uiOk_hex a h.1.1, uiOk_hex b h.1.2, ih r' (by omega) h.2]
          decide
      · rw [chars_other _ _ _ _ (by simpa using hc)] at h
        simp only [Bool.and_eq_true] at h
        simp only [List.length_cons] at hn
        rw [List.all_cons, ih r (by omega) h.2, Bool.and_true, uiOk_eq]
        have := h.1
        simp [mem] at this ⊢
        grind
theorem vui_cons (c : UInt8) (r : Bytes) : validUserinfo (c :: r) = (uiOk c && validUserinfo r) := by simp [validUserinfo]
theorem userinfo_law (s : Bytes) : ((!chars [58] true s || validUserinfo s) && (!(!validUserinfo s) || !validUserinfo s)) = true := by
  unfold validUserinfo
  cases h : chars [58] true s
  · cases s.all uiOk <;> rfl
  · rw [chars_uiOk _ s (Nat.le_refl _) h]; rfl

theorem lastIdx_drop (c : UInt8) (s : Bytes) (i : Nat) (h : lastIdx c s = i) : s.drop i = c :: s.drop (i + 1) := by
  induction s generalizing i with
  | nil => simp [lastIdx] at h
  | cons d r ih =>
    unfold lastIdx at h
    split at h
    · obtain ⟨j, hj⟩ := Int.eq_ofNat_of_zero_le ‹0 ≤ lastIdx c r›
      obtain rfl : i = j + 1 := by omega
      simpa using ih j hj
    · split at h
      · obtain rfl : i = 0 := by omega
        rename_i hd; simp at hd; simp [hd]
      · omega
def ends (s p : Bytes) : Bool := p.isSuffixOf s
def shOk (s : Bytes) : Bool := decide (0 ≤ lastIdx 58 s) && optPort (s.drop (lastIdx 58 s).toNat)
def sh0 (s : Bytes) : Bytes := if shOk s then s.take (lastIdx 58 s).toNat else s
def shP (s : Bytes) : Bytes := if shOk s then s.drop ((lastIdx 58 s).toNat + 1) else []
def shB (h : Bytes) : Bool := begins h [91] && ends h [93]
def shH (s : Bytes) : Bytes := if shB (sh0 s) then ((sh0 s).drop 1).take ((sh0 s).length - 2) else sh0 s
def hpOk (s : Bytes) : Bool := !decide (index s [91, 93] < s.length)
def hpD (s : Bytes) : Bool := decide (0 ≤ lastIdx 58 s) && allDigits (s.drop ((lastIdx 58 s).toNat + 1))
def hpH (s : Bytes) : Bytes := if hpOk s then (if hpD s then s.take (lastIdx 58 s).toNat else s) else []
def hpP (s : Bytes) : Bytes := if hpOk s then (if hpD s then s.drop ((lastIdx 58 s).toNat + 1) else []) else []
theorem shOk_eq (s : Bytes) : shOk s = hpD s := by
  unfold shOk hpD
  by_cases h : 0 ≤ lastIdx 58 s
  · obtain ⟨i, hi⟩ := Int.eq_ofNat_of_zero_le h
    rw [hi, Int.toNat_natCast, lastIdx_drop 58 s i hi]
    simp [optPort]
  · simp [h]
theorem not_begins (s : Bytes) (h : hpOk s = true) (t : Bytes) (ht : t <+: s) : begins t [91] = false := by
  cases hb : begins t [91] with
  | false => rfl
  | true =>
    exfalso
    unfold begins at hb
    obtain ⟨r, hr⟩ := List.isPrefixOf_iff_prefix.1 hb
    obtain ⟨q, hq⟩ := ht
    have : s = 91 :: (r ++ q) := by rw [← hq, ← hr]; rfl
    unfold hpOk at h
    rw [this, index_cons] at h
    simp [mem] at h
theorem hostPort_law (s : Bytes) (h : hpOk s = true) : shH s = hpH s ∧ shP s = hpP s := by
  have hp : sh0 s <+: s := by unfold sh0; split; exact List.take_prefix _ _; exact List.prefix_refl _
  have hb : shB (sh0 s) = false := by unfold shB; rw [not_begins s h _ hp]; rfl
  constructor
  · unfold shH hpH; rw [hb, h, sh0, shOk_eq]; rfl
  · unfold shP hpP; rw [h, shOk_eq]; rfl
def tabL : Bytes := [0, 0, 0, 0, 0, 0, 0, 0, 0, 0, 0, 0, 0, 0, 0, 0, 0, 0, 0, 0, 0, 0, 0, 0, 0, 0, 0, 0, 0, 0, 0, 0, 0, 76, 12, 0, 95, 0, 95, 12, 76, 76, 76, 95, 93, 127, 127, 65, 255, 255, 255, 255, 255, 255, 255, 255, 255, 255, 79, 93, 12, 95, 12, 64, 67, 255, 255, 255, 255, 255, 255, 127, 127, 127, 127, 127, 127, 127, 127, 127, 127, 127, 127, 127, 127, 127, 127, 127, 127, 127, 127, 12, 0, 12, 0, 127, 0, 255, 255, 255, 255, 255, 255, 127, 127, 127, 127, 127, 127, 127, 127, 127, 127, 127, 127, 127, 127, 127, 127, 127, 127, 127, 127, 0, 0, 0, 127, 0, 0, 0, 0, 0, 0, 0, 0, 0, 0, 0, 0, 0, 0, 0, 0, 0, 0, 0, 0, 0, 0, 0, 0, 0, 0, 0, 0, 0, 0, 0, 0, 0, 0, 0, 0, 0, 0, 0, 0, 0, 0, 0, 0, 0, 0, 0, 0, 0, 0, 0, 0, 0, 0, 0, 0, 0, 0, 0, 0, 0, 0, 0, 0, 0, 0, 0, 0, 0, 0, 0, 0, 0, 0, 0, 0, 0, 0, 0, 0, 0, 0, 0, 0, 0, 0, 0, 0, 0, 0, 0, 0, 0, 0, 0, 0, 0, 0, 0, 0, 0, 0, 0, 0, 0, 0, 0, 0, 0, 0, 0, 0, 0, 0, 0, 0, 0, 0, 0, 0, 0, 0, 0, 0, 0, 0, 0, 0, 0]
def tab (c : UInt8) : UInt8 := tabL.getD c.toNat 0
theorem all_u8 (p : UInt8 → Bool) (h : ∀ n : Fin 256, p (UInt8.ofNat n.val) = true) (c : UInt8) : p c = true := by
  have := h ⟨c.toNat, c.toNat_lt⟩
  simpa using this
theorem tab_hex (c : UInt8) : (tab c &&& 128 != 0) = decide (0 ≤ hexv c) := by
  have := all_u8 (fun c => (tab c &&& 128 != 0) == decide (0 ≤ hexv c)) (by decide +kernel) c
  simpa using this
/-- What shouldEscape answers. -/
def should (m c : UInt8) : Bool := tab c &&& m == 0
theorem should_query (c : UInt8) : should 32 c = !unreserved c := by
  have := all_u8 (fun c => should 32 c == !unreserved c) (by decide +kernel) c
  simpa using this
def unhex (c : UInt8) : UInt8 := (9 : UInt8) * (c >>> (6 : UInt8)) + (c &&& (15 : UInt8))
def hex2 (a b : UInt8) : UInt8 := UInt8.ofNat ((hexv a).toNat * 16 + (hexv b).toNat)
theorem unhex_eq (c : UInt8) (h : 0 ≤ hexv c) : ((unhex c).toNat : Int) = hexv c := by
  have := all_u8 (fun c => decide (0 ≤ hexv c → ((unhex c).toNat : Int) = hexv c)) (by decide +kernel) c
  exact (of_decide_eq_true this) h
theorem unhex_nat (c : UInt8) : ((unhex c).toNat : Int) = 9 * ((c.toNat : Int) / 64) + (c.toNat : Int) % 16 := by
  have := all_u8 (fun c => decide (((unhex c).toNat : Int) = 9 * ((c.toNat : Int) / 64) + (c.toNat : Int) % 16)) (by decide +kernel) c
  exact of_decide_eq_true this
theorem unhex_hex2 (a b : UInt8) (ha : 0 ≤ hexv a) (hb : 0 ≤ hexv b) : (unhex a <<< 4 ||| unhex b) = hex2 a b := by
  have e1 := unhex_eq a ha
  have e2 := unhex_eq b hb
  have h1 := hexv_hi a
  have h2 := hexv_hi b
  have k1 : unhex a = UInt8.ofNat (hexv a).toNat := by rw [← e1]; simp
  have k2 : unhex b = UInt8.ofNat (hexv b).toNat := by rw [← e2]; simp
  rw [k1, k2, hex2]
  have all : ∀ x y : Fin 16, (UInt8.ofNat x.val <<< 4 ||| UInt8.ofNat y.val) = UInt8.ofNat (x.val * 16 + y.val) := by decide +kernel
  exact all ⟨(hexv a).toNat, by omega⟩ ⟨(hexv b).toNat, by omega⟩

theorem hex2_nat (a b : UInt8) (ha : 0 ≤ hexv a) (hb : 0 ≤ hexv b) : ((hex2 a b).toNat : Int) = hexv a * 16 + hexv b := by
  have h1 := hexv_hi a
  have h2 := hexv_hi b
  unfold hex2
  have e : (UInt8.ofNat ((hexv a).toNat * 16 + (hexv b).toNat)).toNat = (hexv a).toNat * 16 + (hexv b).toNat := by
    rw [UInt8.toNat_ofNat']; omega
  rw [e]; omega

/-- Decoding; q: plus signs become blanks. -/
def dec (q : Bool) : Bytes → Option Bytes
  | [] => some []
  | c :: r =>
    if c = 37 then
      match r with
      | a :: b :: r' => if 0 ≤ hexv a ∧ 0 ≤ hexv b then (dec q r').map (hex2 a b :: ·) else none
      | _ => none
    else (dec q r).map ((if q && c == 43 then 32 else c) :: ·)
def plus (s : Bytes) : Bytes := s.map (fun c => if c == 43 then 32 else c)
theorem dec_pct (q : Bool) (a b : UInt8) (r : Bytes) : dec q (37 :: a :: b :: r) = if 0 ≤ hexv a ∧ 0 ≤ hexv b then (dec q r).map (hex2 a b :: ·) else none := by simp [dec]
theorem dec_short (q : Bool) (r : Bytes) (h : r.length < 2) : dec q (37 :: r) = none := by
  match r, h with
  | [], _ => simp [dec]
  | [a], _ => simp [dec]
theorem dec_other (q : Bool) (c : UInt8) (r : Bytes) (h : c ≠ 37) : dec q (c :: r) = (dec q r).map ((if q && c == 43 then 32 else c) :: ·) := by
  rw [dec.eq_def]; exact if_neg h
theorem hexv_plus (c : UInt8) : (0 ≤ hexv (if c == 43 then 32 else c)) = (0 ≤ hexv c) := by
  by_cases h : c = 43
  · subst h; simp; decide
  · simp [h]
theorem hexv_plus' (c : UInt8) (h : 0 ≤ hexv c) : (if c == 43 then 32 else c) = c := by
  by_cases h' : c = 43
  · subst h'; exact absurd h (by decide)
  · simp [h']
theorem dec_plus (n : Nat) (s : Bytes) (hn : s.length ≤ n) : dec false (plus s) = dec true s := by
  induction n generalizing s with
  | zero => have : s = [] := List.eq_nil_of_length_eq_zero (by omega); rw [this]; rfl
  | succ n ih =>
    match s with
    | [] => rfl
    | c :: r =>
      simp only [List.length_cons] at hn
      by_cases hc : c = 37
      · subst hc
        match r with
        | [] => rw [show plus [37] = [37] from rfl, dec_short _ _ (by simp), dec_short _ _ (by simp)]
        | [a] => rw [show plus [37, a] = 37 :: [if a == 43 then 32 else a] from rfl, dec_short _ _ (by simp), dec_short _ _ (by simp)]
        | a :: b :: r' =>
          rw [show plus (37 :: a :: b :: r') = 37 :: (if a == 43 then 32 else a) :: (if b == 43 then 32 else b) :: plus r' from rfl, dec_pct, dec_pct]
          simp only [hexv_plus]
          simp only [List.length_cons] at hn
          split
          · rename_i h; rw [hexv_plus' a h.1, hexv_plus' b h.2, ih r' (by omega)]
          · rfl
      · rw [show plus (c :: r) = (if c == 43 then 32 else c) :: plus r from rfl, dec_other true c r hc, dec_other false _ _ (by split; decide; exact hc), ih r (by omega)]
        simp
def hexd : Bytes := [48, 49, 50, 51, 52, 53, 54, 55, 56, 57, 65, 66, 67, 68, 69, 70]
def hexU (n : UInt8) : UInt8 := hexd.getD n.toNat 0
/-- A blank of a query. -/
def blank (m c : UInt8) : Bool := c == 32 && m == 32
def esc1 (m c : UInt8) : Bytes := if blank m c then [43] else if should m c then [37, hexU (c >>> 4), hexU (c &&& 15)] else [c]
def esc (m : UInt8) : Bytes → Bytes
  | [] => []
  | c :: r => esc1 m c ++ esc m r
def hexN (m : UInt8) : Bytes → Nat
  | [] => 0
  | c :: r => (if should m c && !blank m c then 1 else 0) + hexN m r
def spN (m : UInt8) : Bytes → Nat
  | [] => 0
  | c :: r => (if should m c && blank m c then 1 else 0) + spN m r
theorem esc_app (m : UInt8) (a b : Bytes) : esc m (a ++ b) = esc m a ++ esc m b := by
  induction a with
  | nil => rfl
  | cons c r ih => simp only [List.cons_append, esc, ih, List.append_assoc]
theorem should_blank (m c : UInt8) (h : blank m c = true) : should m c = true := by
  simp [blank] at h
  obtain ⟨rfl, rfl⟩ := h
  decide +kernel
theorem esc_length (m : UInt8) (s : Bytes) : (esc m s).length = s.length + 2 * hexN m s := by
  induction s with
  | nil => rfl
  | cons c r ih =>
    simp only [esc, hexN, List.length_append, ih, List.length_cons, esc1]
    by_cases hb : blank m c = true
    · simp [hb]; omega
    · by_cases hs : should m c = true
      · simp [hb, hs]; omega
      · simp [hb, hs]; omega
theorem hexN_le (m : UInt8) (s : Bytes) : hexN m s ≤ s.length := by
  induction s with
  | nil => simp [hexN]
  | cons c r ih => simp only [hexN, List.length_cons]; split <;> omega
theorem spN_le (m : UInt8) (s : Bytes) : spN m s ≤ s.length := by
  induction s with
  | nil => simp [spN]
  | cons c r ih => simp only [spN, List.length_cons]; split <;> omega
theorem esc_same (m : UInt8) (s : Bytes) (h : spN m s = 0) (h' : hexN m s = 0) : esc m s = s := by
  induction s with
  | nil => rfl
  | cons c r ih =>
    simp only [spN, hexN] at h h'
    rw [esc, ih (by omega) (by omega), esc1]
    have hs : should m c = false := by
      cases hs : should m c with
      | false => rfl
      | true =>
        cases hb : blank m c with
        | false => simp [hs, hb] at h'
        | true => simp [hs, hb] at h
    have hb : ¬ blank m c = true := fun hb => by rw [should_blank m c hb] at hs; cases hs
    rw [if_neg hb, hs]; rfl
def sp43 (c : UInt8) : UInt8 := if c == 32 then 43 else c
theorem spN_query (m : UInt8) (s : Bytes) (h : spN m s ≠ 0) : m = 32 := by
  induction s with
  | nil => exact absurd rfl h
  | cons c r ih =>
    by_cases hr : spN m r = 0
    · simp only [spN, hr] at h
      cases hb : blank m c with
      | false => simp [hb] at h
      | true => simp [blank] at hb; exact hb.2
    · exact ih hr
theorem esc_blank (s : Bytes) (h : hexN 32 s = 0) : esc 32 s = s.map sp43 := by
  induction s with
  | nil => rfl
  | cons c r ih =>
    simp only [hexN] at h
    rw [esc, ih (by omega), List.map_cons, esc1, sp43]
    cases hb : (c == 32) with
    | true => simp [blank, hb]
    | false =>
      have hs : should 32 c = false := by
        cases hs : should 32 c with
        | false => rfl
        | true => simp [hs, blank, hb] at h
      simp [blank, hb, hs]
theorem hexU_toNat (c : UInt8) (hb : c.toNat < 16) : hexd[c.toNat]'(by simp [hexd]; omega) = hexU c := by
  have := all_u8 (fun c => if h : c.toNat < 16 then decide (hexd[c.toNat]'(by simp [hexd]; omega) = hexU c) else true) (by decide +kernel) c
  rw [dif_pos hb] at this
  exact of_decide_eq_true this
theorem shr4_lt (c : UInt8) : (c >>> 4).toNat < 16 := by
  have := all_u8 (fun c => decide ((c >>> 4).toNat < 16)) (by decide +kernel) c
  exact of_decide_eq_true this
theorem and15_lt (c : UInt8) : (c &&& 15).toNat < 16 := by
  have := all_u8 (fun c => decide ((c &&& 15).toNat < 16)) (by decide +kernel) c
  exact of_decide_eq_true this
theorem shr4_nat (c : UInt8) : (c >>> 4).toNat = c.toNat / 16 := by
  have := all_u8 (fun c => decide ((c >>> 4).toNat = c.toNat / 16)) (by decide +kernel) c
  exact of_decide_eq_true this
theorem and15_nat (c : UInt8) : (c &&& 15).toNat = c.toNat % 16 := by
  have := all_u8 (fun c => decide ((c &&& 15).toNat = c.toNat % 16)) (by decide +kernel) c
  exact of_decide_eq_true this
/-- One byte in escaped form decodes to itself: its two digits. -/
theorem hex2_hexU (c : UInt8) : (0 : Int) ≤ hexv (hexU (c >>> 4)) ∧ (0 : Int) ≤ hexv (hexU (c &&& 15)) ∧ hex2 (hexU (c >>> 4)) (hexU (c &&& 15)) = c := by
  have := all_u8 (fun c => decide ((0 : Int) ≤ hexv (hexU (c >>> 4)) ∧ (0 : Int) ≤ hexv (hexU (c &&& 15)) ∧ hex2 (hexU (c >>> 4)) (hexU (c &&& 15)) = c)) (by decide +kernel) c
  exact of_decide_eq_true this
theorem should_pct (m : UInt8) (h : m = 1 ∨ m = 2 ∨ m = 4 ∨ m = 8 ∨ m = 16 ∨ m = 32 ∨ m = 64) : should m 37 = true := by
  rcases h with rfl | rfl | rfl | rfl | rfl | rfl | rfl <;> decide +kernel
/-- What is escaped decodes to itself. -/
theorem dec_esc (q : Bool) (m : UInt8) (s : Bytes) (hp : should m 37 = true) (hq : q = (m == 32)) (h43 : q = true → should m 43 = true) : dec q (esc m s) = some s := by
  induction s with
  | nil => rfl
  | cons c r ih =>
    rw [esc, esc1]
    by_cases hb : blank m c = true
    · rw [if_pos hb, List.singleton_append, dec_other _ _ _ (by decide), ih]
      simp [blank] at hb
      obtain ⟨rfl, rfl⟩ := hb
      rw [hq]; rfl
    · rw [if_neg hb]
      by_cases hs : should m c = true
      · rw [if_pos hs]
        have h := hex2_hexU c
        rw [List.cons_append, List.cons_append, List.cons_append, List.nil_append, dec_pct, if_pos ⟨h.1, h.2.1⟩, ih, h.2.2]; rfl
      · rw [if_neg hs, List.singleton_append, dec_other _ _ _ (fun e => hs (by rw [e]; exact hp)), ih]
        cases q with
        | false => rfl
        | true =>
          have : ¬ c = 43 := fun e => hs (by rw [e]; exact h43 rfl)
          simp [this]
/-- A text in pieces, parted at slashes. -/
def segs : Bytes → List Bytes
  | [] => [[]]
  | c :: r => if c = 47 then [] :: segs r else (c :: (segs r).headD []) :: (segs r).tail
theorem segs_ne (s : Bytes) : segs s ≠ [] := by cases s with
  | nil => simp [segs]
  | cons c r => simp only [segs]; split <;> simp
def noSl (s : Bytes) : Prop := ∀ c ∈ s, c ≠ 47
theorem noSl_nil : noSl [] := fun c hc => by cases hc
theorem segs_app (a r : Bytes) (h : noSl a) : segs (a ++ 47 :: r) = a :: segs r := by
  induction a with
  | nil => simp [segs]
  | cons c a ih =>
    have hc : c ≠ 47 := h c (by simp)
    rw [List.cons_append, segs, if_neg hc, ih (fun d hd => h d (by simp [hd]))]; rfl
theorem segs_one (a : Bytes) (h : noSl a) : segs a = [a] := by
  induction a with
  | nil => simp [segs]
  | cons c a ih =>
    have hc : c ≠ 47 := h c (by simp)
    rw [segs, if_neg hc, ih (fun d hd => h d (by simp [hd]))]; rfl
theorem segs_noSl (s : Bytes) : ∀ e ∈ segs s, noSl e := by
  induction s with
  | nil => intro e he; simp [segs] at he; subst he; intro c hc; cases hc
  | cons c r ih =>
    intro e he
    rw [segs] at he
    split at he
    · rcases List.mem_cons.1 he with rfl | he
      · intro c hc; cases hc
      · exact ih e he
    · rename_i hc
      rcases List.mem_cons.1 he with rfl | he
      · intro d hd
        rcases List.mem_cons.1 hd with rfl | hd
        · exact hc
        · refine ih ((segs r).headD []) ?_ d hd
          cases hs : segs r with
          | nil => exact absurd hs (segs_ne r)
          | cons a b => simp
      · exact ih e (List.mem_of_mem_tail he)
/-- What stands ahead of the first slash, and behind it. -/
theorem segs_part (s : Bytes) : noSl s ∧ segs s = [s] ∨ ∃ a r, noSl a ∧ s = a ++ 47 :: r ∧ segs s = a :: segs r := by
  induction s with
  | nil => left; exact ⟨noSl_nil, rfl⟩
  | cons c s ih =>
    by_cases hc : c = 47
    · right; exact ⟨[], s, noSl_nil, by rw [hc]; rfl, by rw [hc, segs, if_pos rfl]⟩
    · rcases ih with ⟨h, _⟩ | ⟨a, r, h, rfl, _⟩
      · left
        have : noSl (c :: s) := fun d hd => by
          rcases List.mem_cons.1 hd with rfl | hd
          · exact hc
          · exact h d hd
        exact ⟨this, segs_one _ this⟩
      · right
        have : noSl (c :: a) := fun d hd => by
          rcases List.mem_cons.1 hd with rfl | hd
          · exact hc
          · exact h d hd
        exact ⟨c :: a, r, this, rfl, segs_app (c :: a) r this⟩
theorem fsub_noSl (s : Bytes) (h : noSl s) : fsub [47] s = -1 := by
  induction s with
  | nil => rfl
  | cons c s ih =>
    have hc : (c == 47) = false := by simpa using h c (by simp)
    rw [fsub_one_cons, ih (fun d hd => h d (by simp [hd])), hc]; rfl
theorem fsub_app (a r : Bytes) (h : noSl a) : fsub [47] (a ++ 47 :: r) = a.length := by
  induction a with
  | nil => rw [List.nil_append, fsub_one_cons]; rfl
  | cons c a ih =>
    have hc : (c == 47) = false := by simpa using h c (by simp)
    rw [List.cons_append, fsub_one_cons, ih (fun d hd => h d (by simp [hd])), hc]
    simp; omega
theorem cut_noSl (s : Bytes) (h : noSl s) : cutB [47] s = s ∧ cutF [47] s = false := by
  unfold cutB cutF; rw [fsub_noSl s h]; simp
theorem cut_app (a r : Bytes) (h : noSl a) : cutB [47] (a ++ 47 :: r) = a ∧ cutA [47] (a ++ 47 :: r) = r ∧ cutF [47] (a ++ 47 :: r) = true := by
  unfold cutB cutA cutF; rw [fsub_app a r h]
  refine ⟨?_, ?_, ?_⟩
  · rw [if_neg (by omega)]; simp
  · rw [if_neg (by omega)]; simp
  · simp

/-- One piece of the package's way: what has been written, and whether a slash is left out. -/
def rpPop (d : Bytes) : Bytes := if 0 ≤ lastIdx 47 (d.drop 1) then d.take ((lastIdx 47 (d.drop 1)).toNat + 1) else d.take 1
def rpStep (d : Bytes) (f : Bool) (e : Bytes) : Bytes × Bool :=
  if e = [46] then (d, false) else if e = [46, 46] then (rpPop d, decide ((rpPop d).length = 1)) else ((if f then d else d ++ [47]) ++ e, false)
def dots (e : Bytes) : Bool := e == [46] || e == [46, 46]
def rpRun : List Bytes → Bytes → Bool → Bytes
  | [], d, _ => d
  | [e], d, f => if dots e then (rpStep d f e).1 ++ [47] else (rpStep d f e).1
  | e :: r, d, f => rpRun r (rpStep d f e).1 (rpStep d f e).2
def rpFin (d : Bytes) : Bytes := if (d.drop 1).head? = some 47 then d.drop 1 else d
theorem rpRun_one (e d : Bytes) (f : Bool) : rpRun [e] d f = if dots e then (rpStep d f e).1 ++ [47] else (rpStep d f e).1 := rfl
theorem rpRun_cons (e d : Bytes) (r : List Bytes) (f : Bool) (h : r ≠ []) : rpRun (e :: r) d f = rpRun r (rpStep d f e).1 (rpStep d f e).2 := by
  cases r with
  | nil => exact absurd rfl h
  | cons a b => rfl
/-- The package's way. -/
def rpFull (base ref : Bytes) : Bytes :=
  match ref with
  | [] => base
  | c :: r => if c = 47 then c :: r else base.take ((lastIdx 47 base + 1).toNat) ++ (c :: r)
def resolvePath (base ref : Bytes) : Bytes := if rpFull base ref = [] then [] else rpFin (rpRun (segs (rpFull base ref)) [47] true)

/-- The reference's way: one step. -/
def rdDrop (o : Bytes) : Bytes := o.take (lastIdx 47 o).toNat
def rdStep (i o : Bytes) : Bytes × Bytes :=
  if begins i [46, 46, 47] then (i.drop 3, o)
  else if begins i [46, 47] then (i.drop 2, o)
  else if begins i [47, 46, 47] then (i.drop 2, o)
  else if i = [47, 46] then ([47], o)
  else if begins i [47, 46, 46, 47] then (i.drop 3, rdDrop o)
  else if i = [47, 46, 46] then ([47], rdDrop o)
  else if i = [46] ∨ i = [46, 46] then ([], o)
  else (i.drop (1 + index (i.drop 1) [47]), o ++ i.take (1 + index (i.drop 1) [47]))
def rd : Nat → Bytes → Bytes → Bytes
  | 0, _, o => o
  | n + 1, i, o => if i = [] then o else rd n (rdStep i o).1 (rdStep i o).2
def removeDots (s : Bytes) : Bytes := rd (s.length + 1) s []
def rdSeg : List Bytes → Bytes → Bytes
  | [], o => o
  | [e], o => if e = [46] then o ++ [47] else if e = [46, 46] then rdDrop o ++ [47] else o ++ 47 :: e
  | e :: r, o => rdSeg r (if e = [46] then o else if e = [46, 46] then rdDrop o else o ++ 47 :: e)
theorem rdSeg_cons (e o : Bytes) (r : List Bytes) (h : r ≠ []) : rdSeg (e :: r) o = rdSeg r (if e = [46] then o else if e = [46, 46] then rdDrop o else o ++ 47 :: e) := by
  cases r with
  | nil => exact absurd rfl h
  | cons a b => rfl
theorem index_noSl (s : Bytes) (h : noSl s) : index s [47] = s.length := by
  induction s with
  | nil => rfl
  | cons c s ih =>
    have hc : c ≠ 47 := h c (by simp)
    rw [index_cons, ih (fun d hd => h d (by simp [hd]))]
    simp [mem, hc]
theorem index_app47 (a r : Bytes) (h : noSl a) : index (a ++ 47 :: r) [47] = a.length := by
  induction a with
  | nil => rw [List.nil_append, index_cons]; rfl
  | cons c s ih =>
    have hc : c ≠ 47 := h c (by simp)
    rw [List.cons_append, index_cons, ih (fun d hd => h d (by simp [hd]))]
    simp [mem, hc]
theorem rd_one (n : Nat) (o : Bytes) : rd (n + 2) [47] o = o ++ [47] := by
  rw [rd, if_neg (by simp)]
  have : rdStep [47] o = ([], o ++ [47]) := by simp [rdStep, begins, index]
  rw [this, rd, if_pos rfl]
/-- A first piece that is no dots, in the reference's step. -/
theorem rdStep_other (x a o : Bytes) (hx : x = a ∨ ∃ r, x = a ++ 47 :: r) (ha : noSl a) (h1 : a ≠ [46]) (h2 : a ≠ [46, 46]) :
    rdStep (47 :: x) o = (x.drop a.length, o ++ 47 :: a) := by
  have hi : index x [47] = a.length := by
    rcases hx with rfl | ⟨r, rfl⟩
    · exact index_noSl _ ha
    · exact index_app47 _ _ ha
  have ht : x.take a.length = a := by
    rcases hx with rfl | ⟨r, rfl⟩
    · simp
    · simp
  have e1 : begins (47 :: x) [47, 46, 47] = false := by
    cases hb : begins (47 :: x) [47, 46, 47] with
    | false => rfl
    | true =>
      exfalso
      simp only [begins, List.isPrefixOf_cons_cons, Bool.and_eq_true] at hb
      obtain ⟨z, hz⟩ := List.isPrefixOf_iff_prefix.1 hb.2
      rcases hx with rfl | ⟨r, rfl⟩
      · exact ha 47 (by rw [← hz]; simp) rfl
      · match a, ha, h1, hz with
        | [], _, _, hz => simp at hz
        | [c], ha, h1, hz => simp at hz; exact h1 (by rw [← hz.1])
        | c :: d :: t, ha, h1, hz => simp at hz; exact ha d (by simp) hz.2.1.symm
  have e2 : begins (47 :: x) [47, 46, 46, 47] = false := by
    cases hb : begins (47 :: x) [47, 46, 46, 47] with
    | false => rfl
    | true =>
      exfalso
      simp only [begins, List.isPrefixOf_cons_cons, Bool.and_eq_true] at hb
      obtain ⟨z, hz⟩ := List.isPrefixOf_iff_prefix.1 hb.2
      rcases hx with rfl | ⟨r, rfl⟩
      · exact ha 47 (by rw [← hz]; simp) rfl
      · match a, ha, h2, hz with
        | [], _, _, hz => simp at hz
        | [c], ha, h2, hz => simp at hz
        | [c, d], ha, h2, hz => simp at hz; exact h2 (by rw [← hz.1, ← hz.2.1])
        | c :: d :: e :: t, ha, h2, hz => simp at hz; exact ha e (by simp) hz.2.2.1.symm
  have e3 : ¬ (47 :: x) = [47, 46] := by
    intro h
    have hx1 : x = [46] := by simpa using h
    rcases hx with rfl | ⟨r, rfl⟩
    · exact h1 hx1
    · match a, hx1 with
      | [], hx1 => simp at hx1
      | c :: t, hx1 => simp at hx1
  have e4 : ¬ (47 :: x) = [47, 46, 46] := by
    intro h
    have hx1 : x = [46, 46] := by simpa using h
    rcases hx with rfl | ⟨r, rfl⟩
    · exact h2 hx1
    · match a, hx1 with
      | [], hx1 => simp at hx1
      | [c], hx1 => simp at hx1
      | c :: d :: t, hx1 => simp at hx1
  rw [rdStep, if_neg (by simp [begins]), if_neg (by simp [begins]), if_neg (by rw [e1]; simp), if_neg e3, if_neg (by rw [e2]; simp), if_neg e4, if_neg (by simp)]
  simp only [List.drop_one, List.tail_cons]
  rw [hi, show 1 + a.length = a.length + 1 by omega, List.drop_succ_cons, List.take_succ_cons, ht]
theorem rd_segs (n : Nat) (x o : Bytes) (hn : x.length ≤ n) : rd (n + 2) (47 :: x) o = rdSeg (segs x) o := by
  induction n using Nat.strongRecOn generalizing x o with
  | ind n ih =>
    rcases segs_part x with ⟨h, hs⟩ | ⟨a, r, h, rfl, hs⟩
    · rw [hs, rdSeg]
      by_cases h1 : x = [46]
      · subst h1
        simp at hn
        obtain ⟨m, rfl⟩ : ∃ m, n = m + 1 := ⟨n - 1, by omega⟩
        rw [if_pos rfl, rd, if_neg (by simp)]
        have : rdStep [47, 46] o = ([47], o) := by simp [rdStep, begins]
        rw [this, rd_one]
      · rw [if_neg h1]
        by_cases h2 : x = [46, 46]
        · subst h2
          simp at hn
          obtain ⟨m, rfl⟩ : ∃ m, n = m + 1 := ⟨n - 1, by omega⟩
          rw [if_pos rfl, rd, if_neg (by simp)]
          have : rdStep [47, 46, 46] o = ([47], rdDrop o) := by simp [rdStep, begins]
          rw [this, rd_one]
        · rw [if_neg h2, rd, if_neg (by simp), rdStep_other x x o (.inl rfl) h h1 h2]
          simp only [List.drop_length]
          rw [rd, if_pos rfl]
    · rw [hs, rdSeg_cons _ _ _ (segs_ne r)]
      simp only [List.length_append, List.length_cons] at hn
      by_cases h1 : a = [46]
      · subst h1
        simp at hn
        obtain ⟨m, rfl⟩ : ∃ m, n = m + 1 := ⟨n - 1, by omega⟩
        rw [if_pos rfl, rd, if_neg (by simp)]
        have : rdStep (47 :: ([46] ++ 47 :: r)) o = (47 :: r, o) := by simp [rdStep, begins]
        rw [this]
        exact ih m (by omega) r o (by omega)
      · rw [if_neg h1]
        by_cases h2 : a = [46, 46]
        · subst h2
          simp at hn
          obtain ⟨m, rfl⟩ : ∃ m, n = m + 1 := ⟨n - 1, by omega⟩
          rw [if_pos rfl, rd, if_neg (by simp)]
          have : rdStep (47 :: ([46, 46] ++ 47 :: r)) o = (47 :: r, rdDrop o) := by simp [rdStep, begins]
          rw [this]
          exact ih m (by omega) r _ (by omega)
        · obtain ⟨m, rfl⟩ : ∃ m, n = m + 1 := ⟨n - 1, by omega⟩
          rw [if_neg h2, rd, if_neg (by simp), rdStep_other _ a o (.inr ⟨r, rfl⟩) h h1 h2]
          simp only [List.drop_left]
          exact ih m (by omega) r _ (by omega)

def join (l : List Bytes) : Bytes := l.flatMap (47 :: ·)
theorem join_app (a b : List Bytes) : join (a ++ b) = join a ++ join b := by simp [join]
theorem join_one (e : Bytes) : join [e] = 47 :: e := by simp [join]
theorem lastIdx_noSl (a e : Bytes) (h : noSl e) : lastIdx 47 (a ++ 47 :: e) = a.length := by
  induction a with
  | nil =>
    rw [List.nil_append, lastIdx]
    have : lastIdx 47 e = -1 := by
      induction e with
      | nil => rfl
      | cons c r ih =>
        rw [lastIdx, ih (fun d hd => h d (by simp [hd]))]
        have : (c == 47) = false := by simpa using h c (by simp)
        rw [this]; rfl
    rw [this]; rfl
  | cons c a ih => rw [List.cons_append, lastIdx, ih, if_pos (by omega)]; simp
theorem lastIdx_none (e : Bytes) (h : noSl e) : lastIdx 47 e = -1 := by
  induction e with
  | nil => rfl
  | cons c r ih =>
    rw [lastIdx, ih (fun d hd => h d (by simp [hd]))]
    have : (c == 47) = false := by simpa using h c (by simp)
    rw [this]; rfl
theorem rdDrop_app (l : List Bytes) (e : Bytes) (h : noSl e) : rdDrop (join (l ++ [e])) = join l := by
  rw [rdDrop, join_app, join_one, lastIdx_noSl _ _ h]; simp
theorem rdDrop_nil : rdDrop [] = [] := rfl
theorem snoc_cases (T : List Bytes) : T = [] ∨ ∃ T' e, T = T' ++ [e] := by
  rcases List.eq_nil_or_concat T with h | ⟨a, b, h⟩
  · exact .inl h
  · exact .inr ⟨a, b, by simpa using h⟩
/-- The two ways side by side: empty pieces that the package has forgotten, and the pieces that both have. -/
def Sim (d : Bytes) (f : Bool) (o : Bytes) : Prop :=
  ∃ (Z : Nat) (T : List Bytes), (∀ e ∈ T, noSl e) ∧ o = join (List.replicate Z [] ++ T) ∧
    ((f = false ∧ d = 47 :: join T) ∨ (f = false ∧ (∃ t T', T = t :: T' ∧ t ≠ []) ∧ d = join T) ∨ (f = true ∧ T = [] ∧ d = [47]))
theorem rep_snoc (Z : Nat) : List.replicate (Z + 1) ([] : Bytes) = List.replicate Z [] ++ [[]] := by
  rw [List.replicate_succ']
theorem drop_rep (Z : Nat) : rdDrop (join (List.replicate Z [])) = join (List.replicate (Z - 1) []) := by
  cases Z with
  | zero => rfl
  | succ Z => rw [rep_snoc, rdDrop_app _ _ noSl_nil]; rfl
theorem sim_pop (d : Bytes) (f : Bool) (o : Bytes) (h : Sim d f o) : Sim (rpPop d) (decide ((rpPop d).length = 1)) (rdDrop o) := by
  obtain ⟨Z, T, hT, rfl, h⟩ := h
  have h0 : rpPop [47] = [47] := rfl
  rcases h with ⟨rfl, rfl⟩ | ⟨rfl, ⟨t, T', rfl, ht⟩, rfl⟩ | ⟨rfl, rfl, rfl⟩
  · rcases snoc_cases T with rfl | ⟨T', e, rfl⟩
    · refine ⟨Z - 1, [], by simp, by rw [List.append_nil, drop_rep]; simp, .inr (.inr ⟨?_, rfl, ?_⟩)⟩
      · rw [show join [] = [] from rfl, h0]; rfl
      · rw [show join [] = [] from rfl, h0]
    · have he : noSl e := hT e (by simp)
      have hp : rpPop (47 :: join (T' ++ [e])) = 47 :: join T' := by
        rw [rpPop, List.drop_one, List.tail_cons, join_app, join_one, lastIdx_noSl _ _ he, if_pos (by omega)]; simp
      rw [hp]
      refine ⟨Z, T', fun x hx => hT x (by simp [hx]), by rw [← List.append_assoc, rdDrop_app _ _ he], ?_⟩
      by_cases hn : T' = []
      · subst hn; exact .inr (.inr ⟨rfl, rfl, rfl⟩)
      · refine .inl ⟨?_, rfl⟩
        cases T' with
        | nil => exact absurd rfl hn
        | cons a b => simp [join]
  · have hn : noSl t := hT t (by simp)
    rcases snoc_cases T' with rfl | ⟨T2, e, rfl⟩
    · have hp : rpPop (join [t]) = [47] := by
        rw [rpPop, join_one, List.drop_one, List.tail_cons, lastIdx_none _ hn, if_neg (by omega)]; rfl
      rw [hp]
      exact ⟨Z, [], by simp, by rw [rdDrop_app _ _ hn]; simp, .inr (.inr ⟨rfl, rfl, rfl⟩)⟩
    · have he : noSl e := hT e (by simp)
      have hp : rpPop (join (t :: (T2 ++ [e]))) = join (t :: T2) := by
        have e1 : join (t :: (T2 ++ [e])) = 47 :: (t ++ join T2 ++ 47 :: e) := by simp [join]
        have e2 : join (t :: T2) = 47 :: (t ++ join T2) := by simp [join]
        rw [e1, e2, rpPop, List.drop_one, List.tail_cons, lastIdx_noSl _ _ he, if_pos (by omega), Int.toNat_natCast, List.take_succ_cons, List.take_left]
      rw [hp]
      refine ⟨Z, t :: T2, fun x hx => hT x (by simp at hx ⊢; rcases hx with rfl | hx; exact .inl rfl; exact .inr (.inl hx)), ?_, .inr (.inl ⟨?_, ⟨t, T2, rfl, ht⟩, rfl⟩)⟩
      · rw [show List.replicate Z [] ++ t :: (T2 ++ [e]) = (List.replicate Z [] ++ t :: T2) ++ [e] by simp, rdDrop_app _ _ he]
      · cases t with
        | nil => exact absurd rfl ht
        | cons a b => simp [join]
  · rw [h0]
    exact ⟨Z - 1, [], by simp, by rw [List.append_nil, drop_rep]; simp, .inr (.inr ⟨rfl, rfl, rfl⟩)⟩
theorem sim_push (d : Bytes) (f : Bool) (o e : Bytes) (he : noSl e) (h : Sim d f o) : Sim ((if f then d else d ++ [47]) ++ e) false (o ++ 47 :: e) := by
  obtain ⟨Z, T, hT, rfl, h⟩ := h
  have hT' : ∀ x ∈ T ++ [e], noSl x := by
    intro x hx
    rcases List.mem_append.1 hx with hx | hx
    · exact hT x hx
    · simp at hx; subst hx; exact he
  have ho : join (List.replicate Z [] ++ T) ++ 47 :: e = join (List.replicate Z [] ++ (T ++ [e])) := by simp [join]
  rcases h with ⟨rfl, rfl⟩ | ⟨rfl, ⟨t, T', rfl, ht⟩, rfl⟩ | ⟨rfl, rfl, rfl⟩
  · exact ⟨Z, T ++ [e], hT', ho, .inl ⟨rfl, by simp [join]⟩⟩
  · exact ⟨Z, t :: T' ++ [e], hT', ho, .inr (.inl ⟨rfl, ⟨t, T' ++ [e], rfl, ht⟩, by simp [join]⟩)⟩
  · by_cases hn : e = []
    · subst hn
      exact ⟨Z + 1, [], by simp, by rw [rep_snoc]; simp [join], .inl ⟨rfl, rfl⟩⟩
    · exact ⟨Z, [e], by simpa using hT', by simpa using ho, .inr (.inl ⟨rfl, ⟨e, [], rfl, hn⟩, by simp [join]⟩)⟩
def two (s : Bytes) : Prop := (s.drop 1).head? = some 47
theorem join_head (T : List Bytes) (h : T ≠ []) : (join T).head? = some 47 := by
  cases T with
  | nil => exact absurd rfl h
  | cons a b => simp [join]
theorem two_rep (Z : Nat) (T : List Bytes) (h : T ≠ []) : two (join (List.replicate (Z + 1) [] ++ T)) := by
  unfold two
  rw [List.replicate_succ, List.cons_append]
  have : join ([] :: (List.replicate Z [] ++ T)) = 47 :: join (List.replicate Z [] ++ T) := by simp [join]
  rw [this, List.drop_one, List.tail_cons]
  exact join_head _ (by simp [h])
theorem fin_A (T : List Bytes) (h : T ≠ []) : rpFin (47 :: join T) = join T := by
  rw [rpFin, List.drop_one, List.tail_cons, if_pos (join_head T h)]
theorem fin_B (t : Bytes) (T : List Bytes) (ht : t ≠ []) (hn : noSl t) : rpFin (join (t :: T)) = join (t :: T) := by
  rw [rpFin, if_neg]
  cases t with
  | nil => exact absurd rfl ht
  | cons a b =>
    have := hn a (by simp)
    simp [join, this]
theorem end_plain (d : Bytes) (f : Bool) (o : Bytes) (h : Sim d f o) (hf : f = false) (ho : o ≠ []) (h2 : ¬ two o) : rpFin d = o := by
  obtain ⟨Z, T, hT, rfl, h⟩ := h
  rcases h with ⟨_, rfl⟩ | ⟨_, ⟨t, T', rfl, ht⟩, rfl⟩ | ⟨rfl, _, _⟩
  · cases Z with
    | zero =>
      by_cases hn : T = []
      · subst hn; exact absurd rfl ho
      · simpa using fin_A T hn
    | succ Z =>
      by_cases hn : T = []
      · subst hn
        cases Z with
        | zero => rfl
        | succ Z => exact absurd (by rw [rep_snoc, List.append_nil]; exact two_rep Z [[]] (by simp)) h2
      · exact absurd (two_rep Z T hn) h2
  · cases Z with
    | zero => simpa using fin_B t T' ht (hT t (by simp))
    | succ Z => exact absurd (two_rep Z _ (by simp)) h2
  · cases hf
theorem end_dots (d : Bytes) (f : Bool) (o : Bytes) (h : Sim d f o) (h2 : ¬ two (o ++ [47])) : rpFin (d ++ [47]) = o ++ [47] := by
  obtain ⟨Z, T, hT, rfl, h⟩ := h
  have ho : join (List.replicate Z [] ++ T) ++ [47] = join (List.replicate Z [] ++ (T ++ [[]])) := by simp [join]
  rw [ho] at h2 ⊢
  have hZ : Z = 0 := by
    cases Z with
    | zero => rfl
    | succ Z => exact absurd (two_rep Z _ (by simp)) h2
  subst hZ
  simp only [List.replicate_zero, List.nil_append]
  rcases h with ⟨_, rfl⟩ | ⟨_, ⟨t, T', rfl, ht⟩, rfl⟩ | ⟨_, rfl, rfl⟩
  · have e : 47 :: join T ++ [47] = 47 :: join (T ++ [[]]) := by simp [join]
    rw [e, fin_A _ (by simp)]
  · have e : join (t :: T') ++ [47] = join (t :: (T' ++ [[]])) := by simp [join]
    rw [e]; simpa using fin_B t (T' ++ [[]]) ht (hT t (by simp))
  · rfl
theorem rp_rd (l : List Bytes) (hl : l ≠ []) (hs : ∀ e ∈ l, noSl e) (d : Bytes) (f : Bool) (o : Bytes) (h : Sim d f o) (h2 : ¬ two (rdSeg l o)) : rpFin (rpRun l d f) = rdSeg l o := by
  induction l generalizing d f o with
  | nil => exact absurd rfl hl
  | cons e r ih =>
    by_cases hr : r = []
    · subst hr
      rw [rpRun_one]
      by_cases h1 : e = [46]
      · subst h1
        have e1 : rdSeg [[46]] o = o ++ [47] := rfl
        rw [e1] at h2 ⊢
        exact end_dots d f o h h2
      · by_cases h3 : e = [46, 46]
        · subst h3
          have e1 : rdSeg [[46, 46]] o = rdDrop o ++ [47] := rfl
          rw [e1] at h2 ⊢
          exact end_dots _ _ _ (sim_pop d f o h) h2
        · have e1 : rdSeg [e] o = o ++ 47 :: e := by rw [rdSeg, if_neg h1, if_neg h3]
          have e2 : dots e = false := by simp [dots, h1, h3]
          rw [e1] at h2 ⊢
          rw [e2, rpStep, if_neg h1, if_neg h3]
          exact end_plain _ false _ (sim_push d f o e (hs e (by simp)) h) rfl (by simp) h2
    · rw [rdSeg_cons _ _ _ hr] at h2 ⊢
      rw [rpRun_cons _ _ _ _ hr]
      refine ih hr (fun x hx => hs x (by simp [hx])) _ _ _ ?_ h2
      by_cases h1 : e = [46]
      · subst h1
        obtain ⟨Z, T, hT, rfl, h⟩ := h
        refine ⟨Z, T, hT, rfl, ?_⟩
        rcases h with ⟨rfl, rfl⟩ | ⟨rfl, h, rfl⟩ | ⟨rfl, rfl, rfl⟩
        · exact .inl ⟨rfl, rfl⟩
        · exact .inr (.inl ⟨rfl, h, rfl⟩)
        · exact .inl ⟨rfl, rfl⟩
      · rw [if_neg h1, rpStep, if_neg h1]
        by_cases h3 : e = [46, 46]
        · rw [if_pos h3, if_pos h3]; exact sim_pop d f o h
        · rw [if_neg h3, if_neg h3]; exact sim_push d f o e (hs e (by simp)) h
/-- A path that begins with a slash: both ways answer alike, unless the reference's begins with two. -/
theorem resolve_full (x : Bytes) (h2 : ¬ two (removeDots (47 :: x))) : rpFin (rpRun (segs (47 :: x)) [47] true) = removeDots (47 :: x) := by
  have e1 : removeDots (47 :: x) = rdSeg (segs x) [] := by
    rw [removeDots, List.length_cons]; exact rd_segs x.length x [] (by omega)
  have e2 : segs (47 :: x) = [] :: segs x := by rw [segs, if_pos rfl]
  have e3 : rpRun ([] :: segs x) [47] true = rpRun (segs x) [47] false := by rw [rpRun_cons _ _ _ _ (segs_ne x)]; rfl
  rw [e1] at h2 ⊢
  rw [e2, e3]
  exact rp_rd (segs x) (segs_ne x) (segs_noSl x) _ _ _ ⟨0, [], by simp, rfl, .inl ⟨rfl, rfl⟩⟩ h2
theorem rpFull_head (b r : Bytes) (hr : r ≠ []) : ∃ x, rpFull (47 :: b) r = 47 :: x := by
  match r, hr with
  | c :: r, _ =>
    rw [rpFull]
    by_cases hc : c = 47
    · rw [if_pos hc, hc]; exact ⟨_, rfl⟩
    · rw [if_neg hc]
      have h1 := lastIdx_lo 47 b
      have : ∃ n : Nat, (lastIdx 47 (47 :: b) + 1).toNat = n + 1 := by
        rw [lastIdx]; split
        · exact ⟨(lastIdx 47 b + 1).toNat, by omega⟩
        · exact ⟨0, rfl⟩
      obtain ⟨n, hn⟩ := this
      rw [hn, List.take_succ_cons]
      exact ⟨_, rfl⟩
/-- The law: a path is resolved against one that begins with a slash as the reference says. -/
theorem resolve_law (b r : Bytes) (hr : r ≠ []) (h2 : ¬ two (removeDots (rpFull (47 :: b) r))) : resolvePath (47 :: b) r = removeDots (rpFull (47 :: b) r) := by
  obtain ⟨x, hx⟩ := rpFull_head b r hr
  rw [resolvePath, hx, if_neg (by simp)]
  rw [hx] at h2
  exact resolve_full x h2
/-- The reference's way. -/
def specRP (b r : Bytes) : Bytes := if begins r [47] then removeDots r else removeDots (b.take (lastIdx 47 b + 1).toNat ++ r)
theorem specRP_eq (b r : Bytes) (hr : r ≠ []) : specRP b r = removeDots (rpFull b r) := by
  match r, hr with
  | c :: r, _ =>
    rw [specRP, rpFull]
    by_cases hc : c = 47
    · subst hc; simp [begins]
    · have : begins (c :: r) [47] = false := by
        simpa [begins, List.isPrefixOf] using fun (e : (47 : UInt8) = c) => hc e.symm
      rw [this, if_neg hc]; rfl
/-- A character of the grammar, percent signs aside. -/
def okc (more : Bytes) (c : UInt8) : Bool := unreserved c || mem [33, 36, 38, 39, 40, 41, 42, 43, 44, 59, 61] c || mem more c
theorem hexd_ok (c : UInt8) : unreserved (hexU (c >>> 4)) = true ∧ unreserved (hexU (c &&& 15)) = true := by
  have := all_u8 (fun c => unreserved (hexU (c >>> 4)) && unreserved (hexU (c &&& 15))) (by decide +kernel) c
  simpa using this
theorem chars_esc (more : Bytes) (m : UInt8) (s : Bytes) (h : ∀ c, should m c = false → okc more c = true ∧ c ≠ 37) : chars more true (esc m s) = true := by
  induction s with
  | nil => exact chars_nil _ _
  | cons c r ih =>
    rw [esc, esc1]
    by_cases hb : blank m c = true
    · rw [if_pos hb, List.singleton_append, chars_other _ _ _ _ (by decide), ih]; rfl
    · rw [if_neg hb]
      by_cases hs : should m c = true
      · rw [if_pos hs]
        have h2 := hex2_hexU c
        rw [List.cons_append, List.cons_append, List.cons_append, List.nil_append, chars_pct, ih]
        rw [decide_eq_true h2.1, decide_eq_true h2.2.1]; rfl
      · rw [if_neg hs]
        have h3 := h c (by simpa using hs)
        rw [List.singleton_append, chars_other _ _ _ _ (by simpa using h3.2), ih]
        have h4 := h3.1
        unfold okc at h4
        rw [h4]; rfl
theorem ok_segment (c : UInt8) (h : should 2 c = false) : okc [58, 64] c = true ∧ c ≠ 37 := by
  have := all_u8 (fun c => should 2 c || (okc [58, 64] c && c != 37)) (by decide +kernel) c
  simpa [h] using this
theorem ok_query (c : UInt8) (h : should 32 c = false) : okc [58, 64, 47, 63] c = true ∧ c ≠ 37 := by
  have := all_u8 (fun c => should 32 c || (okc [58, 64, 47, 63] c && c != 37)) (by decide +kernel) c
  simpa [h] using this
theorem ok_path (c : UInt8) (h : should 1 c = false) : okc [58, 64, 47] c = true ∧ c ≠ 37 := by
  have := all_u8 (fun c => should 1 c || (okc [58, 64, 47] c && c != 37)) (by decide +kernel) c
  simpa [h] using this
theorem ok_fragment (c : UInt8) (h : should 64 c = false) : okc [58, 64, 47, 63] c = true ∧ c ≠ 37 := by
  have := all_u8 (fun c => should 64 c || (okc [58, 64, 47, 63] c && c != 37)) (by decide +kernel) c
  simpa [h] using this
theorem segment_esc (s : Bytes) : chars [58, 64] true (esc 2 s) = true := chars_esc _ _ s ok_segment
/-- No byte of a set in what was escaped. -/
theorem index_none (set s : Bytes) (h : ∀ c ∈ s, mem set c = false) : index s set = s.length := by
  induction s with
  | nil => rfl
  | cons c r ih =>
    rw [index_cons, h c (by simp), ih (fun d hd => h d (by simp [hd]))]; rfl
theorem setting_esc (s : Bytes) : chars [58, 64, 47, 63] true (esc 32 s) = true ∧ index (esc 32 s) [38, 59, 61] = (esc 32 s).length := by
  refine ⟨chars_esc _ _ s ok_query, index_none _ _ ?_⟩
  induction s with
  | nil => intro c hc; cases hc
  | cons c r ih =>
    intro d hd
    rw [esc] at hd
    rcases List.mem_append.1 hd with hd | hd
    · have hp : ∀ c, (esc1 32 c).all (fun d => !mem [38, 59, 61] d) = true := fun c => all_u8 (fun c => (esc1 32 c).all (fun d => !mem [38, 59, 61] d)) (by decide +kernel) c
      have := List.all_eq_true.1 (hp c) d hd
      simpa using this
    · exact ih d hd
/-- The hints that the package takes. -/
def venc1 (m c : UInt8) : Bool := mem [33, 36, 38, 39, 40, 41, 42, 43, 44, 59, 61, 58, 64] c || mem [91, 93] c || c == 37 || !should m c
def venc (m : UInt8) (s : Bytes) : Bool := s.all (venc1 m)
theorem hex_venc (m c : UInt8) (hm : m = 1 ∨ m = 64) (h : 0 ≤ hexv c) : venc1 m c = true := by
  have h1 := all_u8 (fun c => decide (0 ≤ hexv c → venc1 1 c = true ∧ venc1 64 c = true)) (by decide +kernel) c
  have h2 := (of_decide_eq_true h1) h
  rcases hm with rfl | rfl
  · exact h2.1
  · exact h2.2
theorem venc_chars (more : Bytes) (m : UInt8) (hm : m = 1 ∨ m = 64) (hok : ∀ c, okc more c = true → venc1 m c = true) (n : Nat) (s : Bytes) (hn : s.length ≤ n) (h : chars more true s = true) : venc m s = true := by
  induction n generalizing s with
  | zero => have : s = [] := List.eq_nil_of_length_eq_zero (by omega); rw [this]; rfl
  | succ n ih =>
    match s with
    | [] => rfl
    | c :: r =>
      simp only [List.length_cons] at hn
      by_cases hc : c = 37
      · subst hc
        match r with
        | [] => rw [chars_short _ _ _ (by simp)] at h; cases h
        | [a] => rw [chars_short _ _ _ (by simp)] at h; cases h
        | a :: b :: r' =>
          rw [chars_pct] at h
          simp only [List.length_cons] at hn
          simp at h
          have := ih r' (by omega) h.2
          unfold venc at this ⊢
          simp only [List.all_cons, this, hex_venc m a hm h.1.1, hex_venc m b hm h.1.2]
          simp [venc1]
      · rw [chars_other _ _ _ _ (by simpa using hc)] at h
        rw [Bool.and_eq_true] at h
        have := ih r (by omega) h.2
        unfold venc at this ⊢
        rw [List.all_cons, this, hok c h.1]; rfl
theorem venc_path (s : Bytes) (h : chars [58, 64, 47] true s = true) : venc 1 s = true :=
  venc_chars [58, 64, 47] 1 (.inl rfl) (fun c hc => by
    have := all_u8 (fun c => !okc [58, 64, 47] c || venc1 1 c) (by decide +kernel) c
    simpa [hc] using this) s.length s (Nat.le_refl _) h
theorem venc_fragment (s : Bytes) (h : chars [58, 64, 47, 63] true s = true) : venc 64 s = true :=
  venc_chars [58, 64, 47, 63] 64 (.inr rfl) (fun c hc => by
    have := all_u8 (fun c => !okc [58, 64, 47, 63] c || venc1 64 c) (by decide +kernel) c
    simpa [hc] using this) s.length s (Nat.le_refl _) h
/-- The escaped path, or fragment, of a URL. -/
def hintOk (m : UInt8) (p h : Bytes) : Bool := !h.isEmpty && venc m h && dec false h == some p
def escPath (p h : Bytes) : Bytes := if hintOk 1 p h then h else if p = [42] then [42] else esc 1 p
def escFrag (p h : Bytes) : Bytes := if hintOk 64 p h then h else esc 64 p
theorem hintOk_dec {m : UInt8} {p h : Bytes} (hk : hintOk m p h = true) : dec false h = some p := by
  unfold hintOk at hk
  rw [Bool.and_eq_true] at hk
  simpa using hk.2
theorem escPath_dec (p h : Bytes) : dec false (escPath p h) = some p := by
  unfold escPath
  split
  · rename_i hk; exact hintOk_dec hk
  · split
    · rename_i hp; rw [hp]; rfl
    · exact dec_esc false 1 p (by decide +kernel) (by decide) (fun h => by cases h)
theorem escFrag_dec (p h : Bytes) : dec false (escFrag p h) = some p := by
  unfold escFrag
  split
  · rename_i hk; exact hintOk_dec hk
  · exact dec_esc false 64 p (by decide +kernel) (by decide) (fun h => by cases h)
theorem escPath_hint (p h : Bytes) (h0 : h ≠ []) (hd : dec false h = some p) (hc : chars [58, 64, 47] true h = true) : escPath p h = h := by
  unfold escPath
  rw [if_pos]
  unfold hintOk
  rw [venc_path h hc, hd]
  cases h with
  | nil => exact absurd rfl h0
  | cons a b => simp
theorem escFrag_hint (p h : Bytes) (h0 : h ≠ []) (hd : dec false h = some p) (hc : chars [58, 64, 47, 63] true h = true) : escFrag p h = h := by
  unfold escFrag
  rw [if_pos]
  unfold hintOk
  rw [venc_fragment h hc, hd]
  cases h with
  | nil => exact absurd rfl h0
  | cons a b => simp
/-- The reference's element of a path. -/
def elem1 (c : UInt8) : Bytes := if unreserved c || c == 47 then [c] else [37, hexU (c >>> 4), hexU (c &&& 15)]
def elem : Bytes → Bytes
  | [] => []
  | c :: r => elem1 c ++ elem r
def wantQ1 (c : UInt8) : Bytes := if c == 32 then [43] else if c == 47 then [37, 50, 70] else elem1 c
def wantQ : Bytes → Bytes
  | [] => []
  | c :: r => wantQ1 c ++ wantQ r
theorem wantQ_esc (s : Bytes) : esc 32 s = wantQ s := by
  induction s with
  | nil => rfl
  | cons c r ih =>
    rw [esc, wantQ, ih]
    have := all_u8 (fun c => esc1 32 c == wantQ1 c) (by decide +kernel) c
    rw [show esc1 32 c = wantQ1 c by simpa using this]
theorem wantQ_app (a b : Bytes) : wantQ (a ++ b) = wantQ a ++ wantQ b := by
  induction a with
  | nil => rfl
  | cons c r ih => simp only [List.cons_append, wantQ, ih, List.append_assoc]
theorem elem_app (a b : Bytes) : elem (a ++ b) = elem a ++ elem b := by
  induction a with
  | nil => rfl
  | cons c r ih => simp only [List.cons_append, elem, ih, List.append_assoc]
theorem elem1_len (c : UInt8) : (elem1 c).length ≤ 3 := by unfold elem1; split <;> simp
theorem elem_len (s : Bytes) : (elem s).length ≤ 3 * s.length := by
  induction s with
  | nil => simp [elem]
  | cons c r ih => have := elem1_len c; simp only [elem, List.length_append, List.length_cons]; omega
theorem wantQ1_len (c : UInt8) : (wantQ1 c).length ≤ 3 := by
  unfold wantQ1; split
  · simp
  · split
    · simp
    · exact elem1_len c
theorem wantQ_len (s : Bytes) : (wantQ s).length ≤ 3 * s.length := by
  induction s with
  | nil => simp [wantQ]
  | cons c r ih => have := wantQ1_len c; simp only [wantQ, List.length_append, List.length_cons]; omega
def isCtl (c : UInt8) : Bool := decide (c.toNat < 32) || c == 127
def ctl (s : Bytes) : Bool := s.any isCtl
def lowc (c : UInt8) : UInt8 := if 65 ≤ c.toNat ∧ c.toNat ≤ 90 then c + 32 else c
def lower (s : Bytes) : Bytes := s.map lowc
/-- What is let through in a host (4), in a zone (8); elsewhere all whose percent signs are followed by two digits. -/
def vetP (m a b : UInt8) : Bool :=
  decide (0 ≤ hexv a) && decide (0 ≤ hexv b) && (!(m == 4) || decide (8 ≤ hexv a) || (a == 50 && b == 53)) &&
    (!(m == 8) || (a == 50 && b == 53) || hex2 a b == 32 || !should 4 (hex2 a b))
def vetC (m c : UInt8) : Bool := !(m == 4 || m == 8) || decide (128 ≤ c.toNat) || !should m c
def vet (m : UInt8) : Bytes → Bool
  | [] => true
  | c :: r =>
    if c = 37 then
      match r with
      | a :: b :: r' => vetP m a b && vet m r'
      | _ => false
    else if c = 43 then vet m r else vetC m c && vet m r
theorem vet_pct (m a b : UInt8) (r : Bytes) : vet m (37 :: a :: b :: r) = (vetP m a b && vet m r) := by simp [vet]
theorem vet_short (m : UInt8) (r : Bytes) (h : r.length < 2) : vet m (37 :: r) = false := by
  match r, h with
  | [], _ => simp [vet]
  | [a], _ => simp [vet]
theorem vet_plus (m : UInt8) (r : Bytes) : vet m (43 :: r) = vet m r := by
  rw [vet.eq_def]; simp
theorem vet_other (m c : UInt8) (r : Bytes) (h : c ≠ 37) (h' : c ≠ 43) : vet m (c :: r) = (vetC m c && vet m r) := by
  rw [vet.eq_def]; simp [h, h']
theorem vet_dec (m : UInt8) (q : Bool) (n : Nat) (s : Bytes) (hn : s.length ≤ n) (h : vet m s = true) : (dec q s).isSome = true := by
  induction n generalizing s with
  | zero => have : s = [] := List.eq_nil_of_length_eq_zero (by omega); rw [this]; rfl
  | succ n ih =>
    match s with
    | [] => rfl
    | c :: r =>
      simp only [List.length_cons] at hn
      by_cases hc : c = 37
      · subst hc
        match r with
        | [] => rw [vet_short _ _ (by simp)] at h; cases h
        | [a] => rw [vet_short _ _ (by simp)] at h; cases h
        | a :: b :: r' =>
          rw [vet_pct, Bool.and_eq_true] at h
          simp only [List.length_cons] at hn
          have h1 := h.1
          unfold vetP at h1
          simp only [Bool.and_eq_true, decide_eq_true_eq] at h1
          rw [dec_pct, if_pos ⟨h1.1.1.1, h1.1.1.2⟩]
          have := ih r' (by omega) h.2
          simpa using this
      · rw [dec_other _ _ _ hc]
        have : vet m r = true := by
          by_cases hp : c = 43
          · subst hp; rwa [vet_plus] at h
          · rw [vet_other _ _ _ hc hp, Bool.and_eq_true] at h; exact h.2
        have := ih r (by omega) this
        simpa using this
def uns (m : UInt8) (s : Bytes) : Option Bytes := if vet m s then dec false s else none

/-- An IPv4 address as the package takes it: digits so far in the octet, its value, octets behind. -/
def v4f : Nat → Nat → Nat → Bytes → Bool
  | dg, v, pos, [] => decide (3 ≤ pos)
  | dg, v, pos, c :: r =>
    if isDigit c then !(dg == 1 && v == 0) && decide (v * 10 + (c.toNat - 48) ≤ 255) && v4f (dg + 1) (v * 10 + (c.toNat - 48)) pos r
    else if c = 46 then decide (0 < dg) && !r.isEmpty && decide (pos < 3) && v4f 0 0 (pos + 1) r
    else false
def v4ok (s : Bytes) : Bool := v4f 0 0 0 s
def hexRun (s : Bytes) : Nat := s.findIdx (fun c => !isHex c)
/-- The loop of an IPv6 address: bytes so far, whether there was an ellipsis. -/
def v6go : Nat → Nat → Bool → Bytes → Bool
  | 0, _, _, _ => false
  | n + 1, i, e, s =>
    if 16 ≤ i then s.isEmpty && !e
    else if hexRun s = 0 ∨ 4 < hexRun s then false
    else if (s.drop (hexRun s)).head? = some 46 then (e || i == 12) && decide (i + 4 ≤ 16) && v4ok s && (if i + 4 < 16 then e else !e)
    else match s.drop (hexRun s) with
      | [] => if i + 2 < 16 then e else !e
      | c :: r =>
        if c ≠ 58 then false
        else match r with
          | [] => false
          | d :: r' =>
            if d = 58 then
              if e then false
              else if r' = [] then decide (i + 2 < 16)
              else v6go n (i + 2) true r'
            else v6go n (i + 2) e (d :: r')
def v6b (s : Bytes) : Bool := if begins s [58, 58] then (if s.drop 2 = [] then true else v6go 9 0 true (s.drop 2)) else v6go 9 0 false s
def v6 (s : Bytes) : Bool := if index s [37] < s.length then decide (index s [37] + 1 < s.length) && v6b (s.take (index s [37])) else v6b s
/-- An address with a colon, as netip takes it. -/
def addr6 (s : Bytes) : Bool := ((s.drop (index s [46, 58, 37])).head? == some 58) && v6 s

def hostB (host : Bytes) : Option Bytes :=
  let hn := (host.take (lastIdx 93 host).toNat).drop 1
  if 0 ≤ fsub [37, 50, 53] hn then
    match uns 4 (hn.take (fsub [37, 50, 53] hn).toNat), uns 8 (hn.drop (fsub [37, 50, 53] hn).toNat) with
    | some a, some b => some (a ++ b)
    | _, _ => none
  else uns 4 hn
def http (s : Bytes) : Bool := s == [104, 116, 116, 112] || s == [104, 116, 116, 112, 115]
def hostPortOk (scheme host : Bytes) : Bool :=
  decide (fsub [58] host < 0) || optPort (host.drop (if lastIdx 58 host ≠ fsub [58] host ∧ http scheme = false then lastIdx 58 host else fsub [58] host).toNat)
def parseHost (scheme host : Bytes) : Option Bytes :=
  if 0 < lastIdx 91 host then none
  else if lastIdx 91 host = 0 then
    if lastIdx 93 host < 0 then none
    else if optPort (host.drop ((lastIdx 93 host).toNat + 1)) = false then none
    else match uns 4 (host.drop ((lastIdx 93 host).toNat + 1)), hostB host with
      | some p, some h => if addr6 h then some (91 :: h ++ 93 :: p) else none
      | _, _ => none
  else if hostPortOk scheme host then uns 4 host else none
abbrev PUser := Option (Bytes × Bytes × Bool)
def parseUser (ui : Bytes) : Option (Bytes × Bytes × Bool) :=
  if validUserinfo ui = false then none
  else if fsub [58] ui < 0 then (dec false ui).map (fun u => (u, [], false))
  else match dec false (cutB [58] ui), dec false (cutA [58] ui) with
    | some u, some p => some (u, p, true)
    | _, _ => none
def parseAuth (scheme a : Bytes) : Option (PUser × Bytes) :=
  if lastIdx 64 a < 0 then (parseHost scheme a).map (fun h => (none, h))
  else match parseHost scheme (a.drop ((lastIdx 64 a).toNat + 1)), parseUser (a.take (lastIdx 64 a).toNat) with
    | some h, some u => some (some u, h)
    | _, _ => none
structure PU where
  scheme : Bytes := []
  opq : Bytes := []
  user : PUser := none
  host : Bytes := []
  path : Bytes := []
  frag : Bytes := []
  rawq : Bytes := []
  rawpath : Bytes := []
  rawfrag : Bytes := []
  fq : Bool := false
  oh : Bool := false
def cnt (c : UInt8) (s : Bytes) : Nat := (s.filter (· == c)).length
/-- Is the question mark the last byte, and the only one? -/
def pq (r : Bytes) : Bool := ends r [63] && cnt 63 r == 1
def pRest (r : Bytes) : Bytes := if pq r then r.take (r.length - 1) else cutB [63] r
def pQuery (r : Bytes) : Bytes := if pq r then [] else cutA [63] r
def setPath (u : PU) (p : Bytes) : Option PU := (dec false p).map (fun x => { u with path := x, rawpath := if p = esc 1 x then [] else p })
def setFrag (u : PU) (p : Bytes) : Option PU := (dec false p).map (fun x => { u with frag := x, rawfrag := if p = esc 64 x then [] else p })
def authOf (rest : Bytes) : Bytes := cutB [47] (rest.drop 2)
def restOf (rest : Bytes) : Bytes := if fsub [47] (rest.drop 2) < 0 then [] else (rest.drop 2).drop (fsub [47] (rest.drop 2)).toNat
def parse1 (u : PU) (rest : Bytes) (via : Bool) : Option PU :=
  if (!u.scheme.isEmpty || (!via && !begins rest [47, 47, 47])) && begins rest [47, 47] then
    match parseAuth u.scheme (authOf rest) with
    | none => none
    | some (us, h) => setPath { u with user := us, host := h } (restOf rest)
  else setPath { u with oh := !u.scheme.isEmpty && begins rest [47] } rest
def parse0 (raw : Bytes) (via : Bool) : Option PU :=
  if ctl raw then none
  else if raw = [] ∧ via = true then none
  else if raw = [42] then some { path := [42] }
  else if gsc 0 raw = -2 then none
  else
    let u : PU := { scheme := lower (gsS raw), rawq := pQuery (gsR raw), fq := pq (gsR raw) }
    let rest := pRest (gsR raw)
    if begins rest [47] = false then
      if u.scheme ≠ [] then some { u with opq := rest }
      else if via then none
      else if 0 ≤ fsub [58] (cutB [47] rest) then none
      else parse1 u rest via
    else parse1 u rest via
def parse (raw : Bytes) : Option PU :=
  match parse0 (cutB [35] raw) false with
  | none => none
  | some u => if cutA [35] raw = [] then some u else setFrag u (cutA [35] raw)
def parseReq (raw : Bytes) : Option PU := parse0 raw true

/-- String. -/
def uiStr (u : Bytes × Bytes × Bool) : Bytes := esc 16 u.1 ++ if u.2.2 then 58 :: esc 16 u.2.1 else []
def strHier (u : PU) : Bytes :=
  let a : Bytes :=
    if !u.scheme.isEmpty || !u.host.isEmpty || u.user.isSome then
      if u.oh && u.host.isEmpty && !u.user.isSome then []
      else (if !u.host.isEmpty || !u.path.isEmpty || u.user.isSome then [47, 47] else []) ++ (match u.user with | none => [] | some x => uiStr x ++ [64]) ++ esc 4 u.host
    else []
  let p := escPath u.path u.rawpath
  let two := u.oh && u.host.isEmpty && !u.user.isSome && begins p [47, 47]
  let q := if two then p.drop 1 else p
  let s := (if u.scheme.isEmpty then [] else u.scheme ++ [58]) ++ a ++ (if two then [37, 50, 70] else []) ++ (if !q.isEmpty && !(q.head? == some 47) && !u.host.isEmpty then [47] else [])
  s ++ (if s.isEmpty && decide (0 ≤ fsub [58] (cutB [47] q)) then [46, 47] else []) ++ q
def ustr (u : PU) : Bytes :=
  (if u.opq.isEmpty then strHier u else (if u.scheme.isEmpty then [] else u.scheme ++ [58]) ++ u.opq) ++
    (if u.fq || !u.rawq.isEmpty then 63 :: u.rawq else []) ++ (if u.frag.isEmpty then [] else 35 :: escFrag u.frag u.rawfrag)
theorem cnt_nil (c : UInt8) : cnt c [] = 0 := rfl
theorem cnt_cons (c d : UInt8) (r : Bytes) : cnt c (d :: r) = (if d == c then 1 else 0) + cnt c r := by
  unfold cnt; rw [List.filter_cons]; split
  · rw [List.length_cons]; omega
  · omega
theorem cnt_le (c : UInt8) (s : Bytes) : cnt c s ≤ s.length := List.length_filter_le _ _
def isUp (c : UInt8) : Bool := decide (65 ≤ c.toNat) && decide (c.toNat ≤ 90)
theorem lowc_no (c : UInt8) (h : isUp c = false) : lowc c = c := by
  unfold lowc
  rw [if_neg]
  intro hc
  simp [isUp, hc.1, hc.2] at h
theorem lowc_yes (c : UInt8) (h : isUp c = true) : lowc c = c + 32 ∧ ((c + 32).toNat : Int) = (c.toNat : Int) + 32 := by
  have h1 := all_u8 (fun c => !isUp c || (lowc c == c + 32 && decide (((c + 32).toNat : Int) = (c.toNat : Int) + 32))) (by decide +kernel) c
  simpa [h] using h1
theorem lower_same (s : Bytes) (h : s.any isUp = false) : lower s = s := by
  induction s with
  | nil => rfl
  | cons c r ih =>
    rw [List.any_cons, Bool.or_eq_false_iff] at h
    have : lower (c :: r) = lowc c :: lower r := rfl
    rw [this, lowc_no c h.1, ih h.2]
theorem lower_app (a b : Bytes) : lower (a ++ b) = lower a ++ lower b := by simp [lower]
theorem lower_len (s : Bytes) : (lower s).length = s.length := by simp [lower]
/-- What is decoded is no longer than what was written. -/
theorem dec_len (q : Bool) (n : Nat) (s x : Bytes) (hn : s.length ≤ n) (h : dec q s = some x) : x.length ≤ s.length := by
  induction n generalizing s x with
  | zero => have : s = [] := List.eq_nil_of_length_eq_zero (by omega); subst this; cases h; simp
  | succ n ih =>
    match s with
    | [] => cases h; simp
    | c :: r =>
      simp only [List.length_cons] at hn
      by_cases hc : c = 37
      · subst hc
        match r with
        | [] => rw [dec_short _ _ (by simp)] at h; cases h
        | [a] => rw [dec_short _ _ (by simp)] at h; cases h
        | a :: b :: r' =>
          simp only [List.length_cons] at hn
          rw [dec_pct] at h
          split at h
          · obtain ⟨y, hy, rfl⟩ := Option.map_eq_some_iff.1 h
            have := ih r' y (by omega) hy
            simp only [List.length_cons]; omega
          · cases h
      · rw [dec_other _ _ _ hc] at h
        obtain ⟨y, hy, rfl⟩ := Option.map_eq_some_iff.1 h
        have := ih r y (by omega) hy
        simp only [List.length_cons]; omega
theorem dec_nopct (s : Bytes) (h : ∀ c ∈ s, c ≠ 37) : dec false s = some s := by
  induction s with
  | nil => rfl
  | cons c r ih =>
    rw [dec_other _ _ _ (h c (by simp)), ih (fun d hd => h d (by simp [hd]))]; rfl
theorem uns_nopct (m : UInt8) (s : Bytes) (h : ∀ c ∈ s, c ≠ 37) : uns m s = if vet m s then some s else none := by
  unfold uns; rw [dec_nopct s h]
theorem gsc_ascii (i : Nat) (s : Bytes) (h : 0 ≤ gsc i s) : ∀ c ∈ s.take ((gsc i s).toNat - i), c.toNat < 128 := by
  induction s generalizing i with
  | nil => intro c hc; simp at hc
  | cons d r ih =>
    have key : ∀ j, gsc (j + 1) r ≤ -1 ∨ (j : Int) + 1 ≤ gsc (j + 1) r := by
      intro j
      have : ∀ (r : Bytes) (j : Nat), gsc j r ≤ -1 ∨ (j : Int) ≤ gsc j r := by
        intro r
        induction r with
        | nil => intro j; left; simp [gsc]
        | cons e r ih2 =>
          intro j
          unfold gsc
          (repeat' split)
          · rcases ih2 (j + 1) with h | h; exact .inl h; exact .inr (by omega)
          · left; omega
          · rcases ih2 (j + 1) with h | h; exact .inl h; exact .inr (by omega)
          · left; omega
          · right; omega
          · left; omega
      exact this r (j + 1)
    have hd : ∀ c : UInt8, (isAlpha c || isDigit c || mem [43, 45, 46] c) = true → c.toNat < 128 := by
      intro c hc
      have := all_u8 (fun c => !(isAlpha c || isDigit c || mem [43, 45, 46] c) || decide (c.toNat < 128)) (by decide +kernel) c
      simpa [hc] using this
    unfold gsc at h ⊢
    split
    · rename_i ha
      rw [if_pos ha] at h
      intro c hc
      have hk := key i
      rw [show (gsc (i + 1) r).toNat - i = ((gsc (i + 1) r).toNat - (i + 1)) + 1 by omega, List.take_succ_cons] at hc
      rcases List.mem_cons.1 hc with rfl | hc
      · exact hd _ (by rw [ha]; rfl)
      · exact ih (i + 1) h c hc
    · rename_i ha
      rw [if_neg ha] at h
      split
      · rename_i hb
        rw [if_pos hb] at h
        split
        · rename_i h0; rw [if_pos h0] at h; omega
        · rename_i h0
          rw [if_neg h0] at h
          intro c hc
          have hk := key i
          rw [show (gsc (i + 1) r).toNat - i = ((gsc (i + 1) r).toNat - (i + 1)) + 1 by omega, List.take_succ_cons] at hc
          rcases List.mem_cons.1 hc with rfl | hc
          · refine hd _ ?_
            rcases Bool.or_eq_true_iff.1 hb with h' | h' <;> simp [h']
          · exact ih (i + 1) h c hc
      · rename_i hb
        rw [if_neg hb] at h
        split
        · rename_i h58
          split
          · rename_i h0; rw [if_pos h58, if_pos h0] at h; omega
          · intro c hc; simp at hc
        · rename_i h58; rw [if_neg h58] at h; omega
theorem gsS_ascii (s : Bytes) : ∀ c ∈ gsS s, c.toNat < 128 := by
  intro c hc
  unfold gsS at hc
  split at hc
  · rename_i h; exact gsc_ascii 0 s h c (by simpa using hc)
  · cases hc
theorem gsS_len (s : Bytes) : (gsS s).length ≤ s.length := by
  unfold gsS; split
  · rw [List.length_take]; omega
  · simp
theorem gsR_len (s : Bytes) : (gsR s).length ≤ s.length := by
  unfold gsR; split
  · rw [List.length_drop]; omega
  · omega
theorem cutB_len (t s : Bytes) : (cutB t s).length ≤ s.length := by
  unfold cutB; split
  · omega
  · rw [List.length_take]; omega
theorem cutA_len (t s : Bytes) : (cutA t s).length ≤ s.length := by
  unfold cutA; split
  · simp
  · rw [List.length_drop]; omega
theorem pRest_len (s : Bytes) : (pRest s).length ≤ s.length := by
  unfold pRest; split
  · rw [List.length_take]; omega
  · exact cutB_len _ _
theorem pQuery_len (s : Bytes) : (pQuery s).length ≤ s.length := by
  unfold pQuery; split
  · simp
  · exact cutA_len _ _
theorem ends_pos (s : Bytes) (h : ends s [63] = true) : 0 < s.length := by
  have := (List.isSuffixOf_iff_suffix.1 h).length_le
  simp at this; omega
theorem lastIdx_nomem (c : UInt8) (s : Bytes) (h : c ∉ s) : lastIdx c s = -1 := by
  induction s with
  | nil => rfl
  | cons d r ih =>
    simp at h
    have := ih h.2
    unfold lastIdx
    rw [this, if_neg (by omega), if_neg (by simpa using fun e => h.1 e.symm)]
theorem lastIdx_mid (c : UInt8) (a n : Bytes) (h : c ∉ n) : lastIdx c (a ++ c :: n) = a.length := by
  induction a with
  | nil =>
    have := lastIdx_nomem c n h
    show lastIdx c (c :: n) = _
    unfold lastIdx
    rw [this, if_neg (by omega)]; simp
  | cons d r ih =>
    rw [List.cons_append]; unfold lastIdx; rw [ih, if_pos (by omega)]; simp
theorem index_mem (s set : Bytes) (c : UInt8) (hc : mem set c = true) : c ∉ s.take (index s set) := by
  intro h
  have := List.all_eq_true.1 (take_index s set) c h
  rw [hc] at this; cases this
/-- No fragment: no number sign. -/
theorem spF_no (s : Bytes) (h : spF s = false) : (35 : UInt8) ∉ s := by
  have h4 : (35 : UInt8) ∉ sp4 s := by
    have h3 : ∀ t : Bytes, (t = [] ∨ t.head? = some 35 ∨ 35 ∉ t) → begins t [35] = false → (35 : UInt8) ∉ t := by
      intro t ht hb
      rcases ht with rfl | ht | ht
      · simp
      · cases t with
        | nil => simp
        | cons a r => simp at ht; subst ht; simp [begins, List.isPrefixOf] at hb
      · exact ht
    have hdrop : ∀ (t set : Bytes), mem set 35 = true → t.drop (index t set) = [] ∨ ∃ c r, t.drop (index t set) = c :: r ∧ mem set c = true := by
      intro t set hm
      by_cases hl : index t set < t.length
      · right
        refine ⟨t[index t set], _, List.drop_eq_getElem_cons hl, ?_⟩
        have := List.findIdx_getElem (p := fun c => mem set c) (xs := t) (w := hl)
        exact this
      · left; exact List.drop_eq_nil_of_le (by omega)
    refine h3 (sp4 s) ?_ h
    unfold sp4
    split
    · rcases hdrop (sp3 s) [35] rfl with he | ⟨c, r, he, hc⟩
      · left; exact he
      · right; left
        show ((sp3 s).drop (index (sp3 s) [35])).head? = _
        rw [he]; simp [mem] at hc; subst hc; rfl
    · rename_i hq
      have hq : spQ s = false := by simpa using hq
      rcases hdrop (sp2 s) [63, 35] rfl with he | ⟨c, r, he, hc⟩
      · left; exact he
      · right; left
        have he : sp3 s = c :: r := he
        rw [he]
        simp [mem] at hc
        rcases hc with rfl | rfl
        · unfold spQ at hq; rw [he] at hq; simp [begins, List.isPrefixOf] at hq
        · rfl
  have h3 : (35 : UInt8) ∉ sp3 s := by
    by_cases hq : spQ s = true
    · have e : sp4 s = (sp3 s).drop (index (sp3 s) [35]) := by unfold sp4; rw [if_pos hq]; rfl
      rw [← List.take_append_drop (index (sp3 s) [35]) (sp3 s), List.mem_append]
      rintro (hh | hh)
      · exact index_mem _ _ _ rfl hh
      · rw [← e] at hh; exact h4 hh
    · have e : sp4 s = sp3 s := by unfold sp4; rw [if_neg hq]
      rwa [e] at h4
  have h2 : (35 : UInt8) ∉ sp2 s := by
    rw [← List.take_append_drop (index (sp2 s) [63, 35]) (sp2 s), List.mem_append]
    rintro (hh | hh)
    · exact index_mem _ _ _ rfl hh
    · exact h3 hh
  have h1 : (35 : UInt8) ∉ sp1 s := by
    by_cases ha : spA s = true
    · have e : sp2 s = ((sp1 s).drop 2).drop (index ((sp1 s).drop 2) [47, 63, 35]) := by unfold sp2; rw [if_pos ha]; rfl
      have hd : (35 : UInt8) ∉ (sp1 s).drop 2 := by
        rw [← List.take_append_drop (index ((sp1 s).drop 2) [47, 63, 35]) ((sp1 s).drop 2), List.mem_append]
        rintro (hh | hh)
        · exact index_mem _ _ _ rfl hh
        · rw [← e] at hh; exact h2 hh
      have hb : sp1 s = [47, 47] ++ (sp1 s).drop 2 := by
        have : begins (sp1 s) [47, 47] = true := ha
        obtain ⟨r, hr⟩ := List.isPrefixOf_iff_prefix.1 this
        rw [← hr]; simp
      rw [hb]; simp only [List.mem_append]
      rintro (hh | hh)
      · revert hh; decide
      · exact hd hh
    · have e : sp2 s = sp1 s := by unfold sp2; rw [if_neg ha]
      rwa [e] at h2
  by_cases hs : spS s = true
  · have e : sp1 s = s.drop (index s [58, 47, 63, 35] + 1) := by unfold sp1; rw [if_pos hs]; rfl
    rw [← List.take_append_drop (index s [58, 47, 63, 35]) s, List.mem_append]
    rintro (hh | hh)
    · exact index_mem _ _ _ rfl hh
    · have hk := hs
      unfold spS at hk
      simp only [Bool.and_eq_true, decide_eq_true_eq, beq_iff_eq] at hk
      obtain ⟨⟨_, hl⟩, hh58⟩ := hk
      unfold spI at hl hh58
      rw [List.drop_eq_getElem_cons hl] at hh hh58
      rw [← e] at hh
      rcases List.mem_cons.1 hh with hh | hh
      · rw [List.head?_cons] at hh58
        rw [← hh] at hh58; cases hh58
      · exact h1 hh
  · have e : sp1 s = s := by unfold sp1; rw [if_neg hs]
    rwa [e] at h1
theorem cutB_none (c : UInt8) (s : Bytes) (h : c ∉ s) : cutB [c] s = s ∧ cutA [c] s = [] := by
  have : fsub [c] s = -1 := by
    induction s with
    | nil => rfl
    | cons d r ih =>
      simp at h
      rw [fsub_one_cons, ih h.2, if_neg (by simpa using fun e => h.1 e.symm)]; rfl
  unfold cutB cutA; rw [this]; exact ⟨rfl, rfl⟩
theorem cutB_some (c : UInt8) (a b : Bytes) (h : c ∉ a) : cutB [c] (a ++ c :: b) = a ∧ cutA [c] (a ++ c :: b) = b := by
  have : fsub [c] (a ++ c :: b) = a.length := by
    induction a with
    | nil => rw [List.nil_append, fsub_one_cons, if_pos (by simp)]; rfl
    | cons d r ih =>
      simp at h
      rw [List.cons_append, fsub_one_cons, ih h.2, if_neg (by simpa using fun e => h.1 e.symm), if_neg (by omega)]; simp
  unfold cutB cutA; rw [this, if_neg (by omega), if_neg (by omega), Int.toNat_natCast]
  refine ⟨by simp, ?_⟩
  rw [show a.length + [c].length = a.length + 1 from rfl, List.drop_append]; simp
theorem first_split (c : UInt8) (b : Bytes) (h : c ∈ b) : ∃ x y, b = x ++ c :: y ∧ c ∉ x := by
  induction b with
  | nil => cases h
  | cons d r ih =>
    by_cases hd : d = c
    · subst hd; exact ⟨[], r, rfl, by simp⟩
    · have hr : c ∈ r := by
        rcases List.mem_cons.1 h with e | e
        · exact absurd e.symm hd
        · exact e
      obtain ⟨x, y, e, hx⟩ := ih hr
      exact ⟨d :: x, y, by rw [e]; rfl, by simp; exact ⟨fun e => hd e.symm, hx⟩⟩
theorem cutB_pre (c : UInt8) (a b : Bytes) (h : c ∉ a) : cutB [c] (a ++ b) = a ++ cutB [c] b := by
  by_cases hb : c ∈ b
  · obtain ⟨x, y, rfl, hx⟩ := first_split c b hb
    have hax : c ∉ a ++ x := by simp [h, hx]
    rw [← List.append_assoc, (cutB_some c (a ++ x) y hax).1, (cutB_some c x y hx).1]
  · rw [(cutB_none c b hb).1, (cutB_none c (a ++ b) (by simp [h, hb])).1]
/-- A control character ahead of the fragment is refused. -/
theorem parse_control (a b : Bytes) (c : UInt8) (ha : spF a = false) (hc : isCtl c = true) : ctl (cutB [35] (a ++ c :: b)) = true ∧ parse (a ++ c :: b) = none := by
  have h35 : c ≠ 35 := by rintro rfl; exact absurd hc (by decide)
  have e : cutB [35] (a ++ c :: b) = a ++ c :: cutB [35] b := by
    have := cutB_pre 35 (a ++ [c]) b (by simp [spF_no a ha, Ne.symm h35])
    simpa using this
  have hct : ctl (cutB [35] (a ++ c :: b)) = true := by
    rw [e]; unfold ctl; simp [hc]
  refine ⟨hct, ?_⟩
  rw [parse, parse0, if_pos hct]
theorem ctl_mask (c : UInt8) : isCtl (if 31 < (c &&& 63).toNat then 127 else c &&& 63) = true := by
  have := all_u8 (fun c => isCtl (if 31 < (c &&& 63).toNat then 127 else c &&& 63)) (by decide +kernel) c
  exact this
/-- Which bytes an element in escaped form has. -/
def eok (c : UInt8) : Bool := unreserved c || c == 47 || c == 37
theorem elem1_ok (c : UInt8) : (elem1 c).all eok = true := by
  have := all_u8 (fun c => (elem1 c).all eok) (by decide +kernel) c
  exact this
theorem elem_ok (s : Bytes) : ∀ c ∈ elem s, eok c = true := by
  induction s with
  | nil => intro c hc; cases hc
  | cons d r ih =>
    intro c hc
    rw [elem] at hc
    rcases List.mem_append.1 hc with h | h
    · exact List.all_eq_true.1 (elem1_ok d) c h
    · exact ih c h
theorem eok_not (c : UInt8) (h : eok c = true) : c ≠ 35 ∧ c ≠ 63 ∧ isCtl c = false := by
  have := all_u8 (fun c => !eok c || (c != 35 && c != 63 && !isCtl c)) (by decide +kernel) c
  simpa [h, and_assoc] using this
/-- An element, a percent sign, an element. -/
def bp (a b : Bytes) : Bytes := elem a ++ 37 :: elem b
theorem bp_ok (a b : Bytes) : ∀ c ∈ bp a b, eok c = true := by
  intro c hc
  unfold bp at hc
  rcases List.mem_append.1 hc with h | h
  · exact elem_ok a c h
  · rcases List.mem_cons.1 h with rfl | h
    · decide
    · exact elem_ok b c h
theorem dec_pre (p t : Bytes) (h : ∀ c ∈ p, c ≠ 37) : dec false (p ++ t) = (dec false t).map (p ++ ·) := by
  induction p with
  | nil => simp
  | cons c r ih =>
    rw [List.cons_append, dec_other _ _ _ (h c (by simp)), ih (fun d hd => h d (by simp [hd])), Option.map_map]; rfl
theorem cnt_zero (c : UInt8) (s : Bytes) (h : c ∉ s) : cnt c s = 0 := by
  induction s with
  | nil => rfl
  | cons d r ih =>
    simp at h
    rw [cnt_cons, ih h.2, if_neg (by simpa using fun e => h.1 e.symm)]
def httpA : Bytes := [104, 116, 116, 112, 58, 47, 47, 97, 47]
theorem parse0_elem (t : Bytes) (h : ∀ c ∈ t, eok c = true) :
    parse0 (httpA ++ t) false = (dec false t).map (fun x => { scheme := [104, 116, 116, 112], host := [97], path := 47 :: x, rawpath := if 47 :: t = esc 1 (47 :: x) then [] else 47 :: t }) := by
  have hct : ctl (httpA ++ t) = false := by
    unfold ctl
    rw [List.any_append, show httpA.any isCtl = false from rfl, Bool.false_or, List.any_eq_false]
    intro c hc
    simp [(eok_not c (h c hc)).2.2]
  have hg : gsc 0 (httpA ++ t) = 4 := gsc_zero 104 [116, 116, 112] (47 :: 47 :: 97 :: 47 :: t) (by decide) (by decide)
  have hS : gsS (httpA ++ t) = [104, 116, 116, 112] := by unfold gsS; rw [hg]; rfl
  have hR : gsR (httpA ++ t) = 47 :: 47 :: 97 :: 47 :: t := by unfold gsR; rw [hg]; rfl
  have h63 : (63 : UInt8) ∉ (47 :: 47 :: 97 :: 47 :: t : Bytes) := by
    simp
    intro hc; exact (eok_not _ (h _ hc)).2.1 rfl
  have hpq : pq (47 :: 47 :: 97 :: 47 :: t) = false := by unfold pq; rw [cnt_zero 63 _ h63]; simp
  have hpr : pRest (47 :: 47 :: 97 :: 47 :: t) = 47 :: 47 :: 97 :: 47 :: t := by unfold pRest; rw [hpq, (cutB_none 63 _ h63).1]; rfl
  have hpy : pQuery (47 :: 47 :: 97 :: 47 :: t) = [] := by unfold pQuery; rw [hpq, (cutB_none 63 _ h63).2]; rfl
  have hfs : fsub [47] (97 :: 47 :: t) = 1 := by rw [fsub_one_cons, fsub_one_cons]; rfl
  have hau : authOf (47 :: 47 :: 97 :: 47 :: t) = [97] := by
    show cutB [47] (97 :: 47 :: t) = _
    unfold cutB; rw [hfs]; rfl
  have hre : restOf (47 :: 47 :: 97 :: 47 :: t) = 47 :: t := by
    show (if fsub [47] (97 :: 47 :: t) < 0 then [] else (97 :: 47 :: t : Bytes).drop (fsub [47] (97 :: 47 :: t)).toNat) = _
    rw [hfs]; rfl
  have hpa : parseAuth [104, 116, 116, 112] [97] = some (none, [97]) := by decide +kernel
  unfold parse0
  rw [hct, hg, hS, hR, hpq, hpr, hpy]
  rw [if_neg (by decide), if_neg (by simp [httpA]), if_neg (by simp [httpA]), if_neg (by decide)]
  have hl : lower [104, 116, 116, 112] = [104, 116, 116, 112] := by decide
  simp only [hl]
  rw [if_neg (by simp [begins, List.isPrefixOf])]
  unfold parse1
  rw [if_pos (by simp [begins, List.isPrefixOf])]
  simp only [hau, hre, hpa]
  unfold setPath
  rw [dec_other _ _ _ (by decide), Option.map_map]
  cases dec false t <;> rfl
theorem auth_elem (t : Bytes) (h : ∀ c ∈ t, eok c = true) : authOf (pRest (gsR (httpA ++ t))) = [97] := by
  have hg : gsc 0 (httpA ++ t) = 4 := gsc_zero 104 [116, 116, 112] (47 :: 47 :: 97 :: 47 :: t) (by decide) (by decide)
  have hR : gsR (httpA ++ t) = 47 :: 47 :: 97 :: 47 :: t := by unfold gsR; rw [hg]; rfl
  have h63 : (63 : UInt8) ∉ (47 :: 47 :: 97 :: 47 :: t : Bytes) := by
    simp
    intro hc; exact (eok_not _ (h _ hc)).2.1 rfl
  have hpq : pq (47 :: 47 :: 97 :: 47 :: t) = false := by unfold pq; rw [cnt_zero 63 _ h63]; simp
  have hpr : pRest (47 :: 47 :: 97 :: 47 :: t) = 47 :: 47 :: 97 :: 47 :: t := by unfold pRest; rw [hpq, (cutB_none 63 _ h63).1]; rfl
  have hfs : fsub [47] (97 :: 47 :: t) = 1 := by rw [fsub_one_cons, fsub_one_cons]; rfl
  rw [hR, hpr]
  show cutB [47] (97 :: 47 :: t) = _
  unfold cutB; rw [hfs]; rfl
theorem bp_no35 (a b : Bytes) : (35 : UInt8) ∉ httpA ++ bp a b := by
  rw [List.mem_append]
  rintro (h | h)
  · revert h; decide
  · exact (eok_not _ (bp_ok a b _ h)).1 rfl
theorem bad_path (a b : Bytes) : parse (httpA ++ bp a b) = (dec false (bp a b)).map (fun x => { scheme := [104, 116, 116, 112], host := [97], path := 47 :: x, rawpath := if 47 :: bp a b = esc 1 (47 :: x) then [] else 47 :: bp a b }) ∧
    (dec false (httpA ++ bp a b)).isSome = (dec false (bp a b)).isSome := by
  have h35 : (35 : UInt8) ∉ httpA ++ bp a b := by
    rw [List.mem_append]
    rintro (h | h)
    · revert h; decide
    · exact (eok_not _ (bp_ok a b _ h)).1 rfl
  constructor
  · unfold parse
    rw [(cutB_none 35 _ h35).1, (cutB_none 35 _ h35).2, parse0_elem _ (bp_ok a b)]
    cases dec false (bp a b) <;> rfl
  · rw [dec_pre _ _ (by decide)]; cases dec false (bp a b) <;> rfl
theorem bad_frag (a b : Bytes) : parse (httpA ++ 35 :: bp a b) = (dec false (bp a b)).map (fun x => { scheme := [104, 116, 116, 112], host := [97], path := [47], frag := x, rawfrag := if bp a b = esc 64 x then [] else bp a b }) ∧
    (dec false (httpA ++ 35 :: bp a b)).isSome = (dec false (bp a b)).isSome := by
  have hcut := cutB_some 35 httpA (bp a b) (by decide)
  constructor
  · unfold parse
    rw [hcut.1, hcut.2]
    have h0 : parse0 httpA false = some { scheme := [104, 116, 116, 112], host := [97], path := [47] } := by
      have := parse0_elem [] (by simp)
      rw [List.append_nil] at this
      rw [this]
      show some _ = some _
      congr 1
    rw [h0]
    simp only
    rw [if_neg (by unfold bp; simp)]
    unfold setFrag
    rfl
  · have := dec_pre (httpA ++ [35]) (bp a b) (by decide)
    rw [List.append_assoc] at this
    rw [show httpA ++ 35 :: bp a b = httpA ++ ([35] ++ bp a b) from rfl, this]; cases dec false (bp a b) <;> rfl
/-- Sizes of what is parsed. -/
theorem setPath_sz {u v : PU} {p : Bytes} (h : setPath u p = some v) : v.path.length ≤ p.length ∧ v.rawpath.length ≤ p.length ∧ v.frag = u.frag ∧ v.rawfrag = u.rawfrag ∧ v.user = u.user := by
  unfold setPath at h
  obtain ⟨x, hx, rfl⟩ := Option.map_eq_some_iff.1 h
  have := dec_len false _ p x (Nat.le_refl _) hx
  refine ⟨this, ?_, rfl, rfl, rfl⟩
  show (if p = esc 1 x then [] else p : Bytes).length ≤ _
  split <;> simp
theorem restOf_len (r : Bytes) : (restOf r).length ≤ r.length := by
  unfold restOf; split
  · simp
  · simp only [List.length_drop]; omega
theorem parse1_sz {u v : PU} {r : Bytes} {via : Bool} (h : parse1 u r via = some v) (hf : u.frag = []) (hr : u.rawfrag = []) : v.path.length ≤ r.length ∧ v.rawpath.length ≤ r.length ∧ v.frag = [] ∧ v.rawfrag = [] := by
  unfold parse1 at h
  split at h
  · cases hp : parseAuth u.scheme (authOf r) with
    | none => rw [hp] at h; cases h
    | some x =>
      rw [hp] at h
      have := setPath_sz h
      have hl := restOf_len r
      exact ⟨by omega, by omega, this.2.2.1.trans hf, this.2.2.2.1.trans hr⟩
  · have := setPath_sz h
    exact ⟨this.1, this.2.1, this.2.2.1.trans hf, this.2.2.2.1.trans hr⟩
theorem parse0_sz {raw : Bytes} {via : Bool} {v : PU} (h : parse0 raw via = some v) : v.path.length ≤ raw.length ∧ v.rawpath.length ≤ raw.length ∧ v.frag = [] ∧ v.rawfrag = [] := by
  have hl : (pRest (gsR raw)).length ≤ raw.length := Nat.le_trans (pRest_len _) (gsR_len _)
  unfold parse0 at h
  split at h
  · cases h
  split at h
  · cases h
  split at h
  · rename_i he
    cases h; rw [he]; simp
  split at h
  · cases h
  simp only at h
  split at h
  · split at h
    · cases h; simp
    · split at h
      · cases h
      · split at h
        · cases h
        · have := parse1_sz h rfl rfl; exact ⟨by omega, by omega, this.2.2⟩
  · have := parse1_sz h rfl rfl; exact ⟨by omega, by omega, this.2.2⟩
theorem parse_sz {raw : Bytes} {v : PU} (h : parse raw = some v) : v.path.length ≤ raw.length ∧ v.rawpath.length ≤ raw.length ∧ v.frag.length ≤ raw.length ∧ v.rawfrag.length ≤ raw.length := by
  unfold parse at h
  have h1 := cutB_len [35] raw
  have h2 := cutA_len [35] raw
  cases h0 : parse0 (cutB [35] raw) false with
  | none => rw [h0] at h; cases h
  | some u =>
    rw [h0] at h
    have hs := parse0_sz h0
    simp only at h
    split at h
    · cases h; exact ⟨by omega, by omega, by rw [hs.2.2.1]; simp, by rw [hs.2.2.2]; simp⟩
    · unfold setFrag at h
      obtain ⟨x, hx, rfl⟩ := Option.map_eq_some_iff.1 h
      have := dec_len false _ _ x (Nat.le_refl _) hx
      refine ⟨by simpa using (by omega : u.path.length ≤ raw.length), by simpa using (by omega : u.rawpath.length ≤ raw.length), by simpa using (by omega : x.length ≤ raw.length), ?_⟩
      show (if cutA [35] raw = esc 64 x then [] else cutA [35] raw : Bytes).length ≤ _
      split
      · simp
      · omega
end NU
/-
  Plain Lean: the loop of an IPv6 address, step by step.
-/
namespace NU
set_option linter.unusedVariables false
set_option linter.unusedSimpArgs false
theorem hexRun_le (s : Bytes) : hexRun s ≤ s.length := List.findIdx_le_length
theorem hexRun_hex (s : Bytes) (k : Nat) (h : k < hexRun s) (hk : k < s.length) : isHex s[k] = true := by
  have := List.not_of_lt_findIdx (p := fun c => !isHex c) (xs := s) (i := k) h
  simpa using this
theorem hexRun_stop (s : Bytes) (h : hexRun s < s.length) : isHex s[hexRun s] = false := by
  have h1 : (!isHex (s[s.findIdx (fun c => !isHex c)]'h)) = true := List.findIdx_getElem (p := fun c => !isHex c) (xs := s) (w := h)
  show isHex (s[s.findIdx (fun c => !isHex c)]'h) = false
  cases e : isHex (s[s.findIdx (fun c => !isHex c)]'h)
  · rfl
  · rw [e] at h1; cases h1
/-- Is this number a whole address? -/
def v6end (i : Nat) (e : Bool) : Bool := if i < 16 then e else !e
theorem v6go_lt {n i : Nat} {e : Bool} {d : UInt8} {s : Bytes} (h : v6go n i e (d :: s) = true) : i < 16 := by
  cases n with
  | zero => simp [v6go] at h
  | succ n =>
    rw [v6go] at h
    split at h
    · simp at h
    · omega
theorem v6go_step {n i : Nat} {e : Bool} {s : Bytes} (h : v6go n i e s = true) (hi : i < 16) :
    0 < hexRun s ∧ hexRun s ≤ 4 ∧
    (((s.drop (hexRun s)).head? = some 46 ∧ (e = true ∨ i = 12) ∧ i + 4 ≤ 16 ∧ v4ok s = true ∧ v6end (i + 4) e = true) ∨
     (s.drop (hexRun s) = [] ∧ v6end (i + 2) e = true) ∨
     (∃ d r m, s.drop (hexRun s) = 58 :: d :: r ∧ d ≠ 58 ∧ v6go m (i + 2) e (d :: r) = true) ∨
     (s.drop (hexRun s) = [58, 58] ∧ e = false ∧ i + 2 < 16) ∨
     (∃ d r m, s.drop (hexRun s) = 58 :: 58 :: d :: r ∧ e = false ∧ v6go m (i + 2) true (d :: r) = true)) := by
  cases n with
  | zero => simp [v6go] at h
  | succ n =>
    rw [v6go, if_neg (by omega)] at h
    split at h
    · cases h
    · rename_i hh
      refine ⟨by omega, by omega, ?_⟩
      split at h
      · rename_i h46
        simp only [Bool.and_eq_true, Bool.or_eq_true, decide_eq_true_eq, beq_iff_eq] at h
        exact .inl ⟨h46, h.1.1.1, h.1.1.2, h.1.2, h.2⟩
      · rename_i h46
        right
        split at h
        · rename_i he
          exact .inl ⟨he, h⟩
        · rename_i c r he
          right
          split at h
          · cases h
          · rename_i hc
            have hc : c = 58 := by simpa using hc
            subst hc
            split at h
            · cases h
            · rename_i d r'
              split at h
              · rename_i hd
                subst hd
                right
                cases e
                · simp only [Bool.false_eq_true, if_false] at h
                  split at h
                  · rename_i hr
                    subst hr
                    exact .inl ⟨he, rfl, by simpa using h⟩
                  · rename_i hr
                    obtain ⟨d, r, rfl⟩ := List.exists_cons_of_ne_nil hr
                    exact .inr ⟨d, r, n, he, rfl, h⟩
                · simp at h
              · rename_i hd
                exact .inl ⟨d, r', n, he, hd, h⟩
/-- Where an address opens with two colons. -/
theorem v6b_dbl {s : Bytes} (h : v6b s = true) (hb : begins s [58, 58] = true) : s.drop 2 = [] ∨ ∃ d r, s.drop 2 = d :: r ∧ v6go 9 0 true (d :: r) = true := by
  rw [v6b, if_pos hb] at h
  split at h
  · rename_i he; exact .inl he
  · rename_i he
    obtain ⟨d, r, hr⟩ := List.exists_cons_of_ne_nil he
    exact .inr ⟨d, r, hr, by rw [← hr]; exact h⟩
theorem v6b_one {s : Bytes} (h : v6b s = true) (hb : begins s [58, 58] = false) : ∃ d r, s = d :: r ∧ v6go 9 0 false (d :: r) = true := by
  rw [v6b, if_neg (by simp [hb])] at h
  cases s with
  | nil => exact absurd h (by decide)
  | cons d r => exact ⟨d, r, rfl, h⟩
theorem hexv_hex {c : UInt8} (h : isHex c = true) : (48 ≤ c.toNat ∧ c.toNat ≤ 57) ∨ (97 ≤ c.toNat ∧ c.toNat ≤ 102) ∨ (65 ≤ c.toNat ∧ c.toNat ≤ 70) := by
  have : ∀ c : UInt8, isHex c = true → (48 ≤ c.toNat ∧ c.toNat ≤ 57) ∨ (97 ≤ c.toNat ∧ c.toNat ≤ 102) ∨ (65 ≤ c.toNat ∧ c.toNat ≤ 70) := by
    intro c
    have : ∀ n : Fin 256, isHex (UInt8.ofNat n.val) = true → (48 ≤ n.val ∧ n.val ≤ 57) ∨ (97 ≤ n.val ∧ n.val ≤ 102) ∨ (65 ≤ n.val ∧ n.val ≤ 70) := by decide +kernel
    have h2 := this ⟨c.toNat, c.toNat_lt⟩
    simpa using h2
  exact this c h
theorem hexv_no {c : UInt8} (h : isHex c = false) : ¬ (48 ≤ c.toNat ∧ c.toNat ≤ 57) ∧ ¬ (97 ≤ c.toNat ∧ c.toNat ≤ 102) ∧ ¬ (65 ≤ c.toNat ∧ c.toNat ≤ 70) := by
  have : ∀ n : Fin 256, isHex (UInt8.ofNat n.val) = false → ¬ (48 ≤ n.val ∧ n.val ≤ 57) ∧ ¬ (97 ≤ n.val ∧ n.val ≤ 102) ∧ ¬ (65 ≤ n.val ∧ n.val ≤ 70) := by decide +kernel
  have h2 := this ⟨c.toNat, c.toNat_lt⟩
  have h3 : UInt8.ofNat c.toNat = c := by simp
  simp only [h3] at h2
  exact h2 h
end NU
/-
  Plain Lean: the string of a plain URL.
-/
namespace NU
set_option linter.unusedVariables false
set_option linter.unusedSimpArgs false
def pUser : PUser → Bytes
  | none => []
  | some x => uiStr x ++ [64]
def pQ (fq : Bool) (rq : Bytes) : Bytes := if fq || !rq.isEmpty then 63 :: rq else []
def pF (fr : Bytes) : Bytes := if fr.isEmpty then [] else 35 :: escFrag fr []
/-- The string of a URL with a scheme and a host, without hints. -/
def pstr (sc : Bytes) (us : PUser) (ho pa fr rq : Bytes) (fq : Bool) : Bytes :=
  sc ++ [58] ++ [47, 47] ++ pUser us ++ esc 4 ho ++ escPath pa [] ++ pQ fq rq ++ pF fr
end NU
/-
  Plain Lean: the string of a plain URL is parsed into it.
-/
namespace NU
set_option linter.unusedVariables false
set_option linter.unusedSimpArgs false
theorem esc_all (m : UInt8) (p : UInt8 → Bool) (h : ∀ c, (esc1 m c).all p = true) (s : Bytes) : ∀ d ∈ esc m s, p d = true := by
  induction s with
  | nil => intro d hd; cases hd
  | cons c r ih =>
    intro d hd
    rw [esc, List.mem_append] at hd
    rcases hd with hd | hd
    · exact List.all_eq_true.1 (h c) d hd
    · exact ih d hd
def pok (d : UInt8) : Bool := d != 35 && d != 63 && !isCtl d
def uok (d : UInt8) : Bool := d != 35 && d != 63 && d != 47 && d != 64 && d != 58 && !isCtl d && uiOk d
theorem esc_pok (s : Bytes) : ∀ d ∈ esc 1 s, pok d = true := esc_all 1 pok (all_u8 (fun c => (esc1 1 c).all pok) (by decide +kernel)) s
theorem esc_uok (s : Bytes) : ∀ d ∈ esc 16 s, uok d = true := esc_all 16 uok (all_u8 (fun c => (esc1 16 c).all uok) (by decide +kernel)) s
theorem pok_no {d : UInt8} (h : pok d = true) : d ≠ 35 ∧ d ≠ 63 ∧ isCtl d = false := by
  unfold pok at h
  simpa [and_assoc] using h
theorem uok_no {d : UInt8} (h : uok d = true) : d ≠ 35 ∧ d ≠ 63 ∧ d ≠ 47 ∧ d ≠ 64 ∧ d ≠ 58 ∧ isCtl d = false ∧ uiOk d = true := by
  unfold uok at h
  simpa [and_assoc] using h
theorem escPath_nil (p : Bytes) (h : p ≠ [42]) : escPath p [] = esc 1 p := by
  unfold escPath
  rw [if_neg (by simp [hintOk]), if_neg h]
theorem escFrag_nil (p : Bytes) : escFrag p [] = esc 64 p := by
  unfold escFrag
  rw [if_neg (by simp [hintOk])]
theorem dec_esc16 (s : Bytes) : dec false (esc 16 s) = some s := dec_esc false 16 s (by decide +kernel) (by decide) (fun h => by cases h)
/-- A user as the package keeps it. -/
def GoodU : PUser → Prop
  | some (_, p, false) => p = []
  | _ => True
theorem uiStr_ok (x : Bytes × Bytes × Bool) : ∀ d ∈ uiStr x, d ≠ 35 ∧ d ≠ 63 ∧ d ≠ 47 ∧ d ≠ 64 ∧ isCtl d = false ∧ uiOk d = true := by
  obtain ⟨n, p, b⟩ := x
  intro d hd
  have key : ∀ s : Bytes, d ∈ esc 16 s → d ≠ 35 ∧ d ≠ 63 ∧ d ≠ 47 ∧ d ≠ 64 ∧ isCtl d = false ∧ uiOk d = true := fun s hs => by
    obtain ⟨h1, h2, h3, h4, _, h6, h7⟩ := uok_no (esc_uok s d hs)
    exact ⟨h1, h2, h3, h4, h6, h7⟩
  unfold uiStr at hd
  rcases List.mem_append.1 hd with hd | hd
  · exact key _ hd
  · cases b
    · simp at hd
    · simp at hd
      rcases hd with rfl | hd
      · decide
      · exact key _ hd
theorem parseUser_uiStr (n p : Bytes) (b : Bool) (h : GoodU (some (n, p, b))) : parseUser (uiStr (n, p, b)) = some (n, p, b) := by
  have hv : validUserinfo (uiStr (n, p, b)) = true := by
    unfold validUserinfo
    rw [List.all_eq_true]
    intro d hd; exact (uiStr_ok _ d hd).2.2.2.2.2
  have h58 : (58 : UInt8) ∉ esc 16 n := fun hd => (uok_no (esc_uok n 58 hd)).2.2.2.2.1 rfl
  unfold parseUser
  rw [if_neg (by rw [hv]; simp)]
  cases b
  · have hp : p = [] := h
    subst hp
    have e : uiStr (n, [], false) = esc 16 n := by simp [uiStr]
    have hf : fsub [58] (esc 16 n) < 0 := by
      have hc := (cutB_none 58 _ h58)
      have := fsub_lo [58] (esc 16 n)
      rcases Int.lt_or_le (fsub [58] (esc 16 n)) 0 with hl | hl
      · exact hl
      · exfalso
        have h1 := hc.1
        unfold cutB at h1
        rw [if_neg (by omega)] at h1
        have h2 := congrArg List.length h1
        rw [List.length_take] at h2
        have h3 := fsub_hi [58] (esc 16 n)
        simp at h3; omega
    rw [e, if_pos hf, dec_esc16]; rfl
  · have e : uiStr (n, p, true) = esc 16 n ++ 58 :: esc 16 p := by simp [uiStr]
    have hc := cutB_some 58 (esc 16 n) (esc 16 p) h58
    have hf : ¬ fsub [58] (esc 16 n ++ 58 :: esc 16 p) < 0 := by
      intro hl
      have h1 := hc.1
      unfold cutB at h1
      rw [if_pos hl] at h1
      have h2 := congrArg List.length h1
      simp at h2
    rw [e, if_neg hf, hc.1, hc.2, dec_esc16, dec_esc16]
/-- What is asked of scheme and host. -/
structure GoodS (sc ho : Bytes) : Prop where
  g : ∀ t, gsc 0 (sc ++ 58 :: t) = (sc.length : Nat)
  low : lower sc = sc
  ok : ∀ d ∈ sc, d ≠ 35 ∧ isCtl d = false
  ne : sc ≠ []
  host : parseHost sc ho = some ho
  esc : esc 4 ho = ho
  hok : ∀ d ∈ ho, d ≠ 35 ∧ d ≠ 63 ∧ d ≠ 47 ∧ d ≠ 64 ∧ isCtl d = false
def auth (us : PUser) (ho : Bytes) : Bytes := pUser us ++ ho
theorem auth_ok {sc ho : Bytes} (G : GoodS sc ho) (us : PUser) : ∀ d ∈ auth us ho, d ≠ 35 ∧ d ≠ 63 ∧ d ≠ 47 ∧ isCtl d = false := by
  intro d hd
  unfold auth at hd
  rcases List.mem_append.1 hd with hd | hd
  · cases us with
    | none => cases hd
    | some x =>
      unfold pUser at hd
      rcases List.mem_append.1 hd with hd | hd
      · have := uiStr_ok x d hd; exact ⟨this.1, this.2.1, this.2.2.1, this.2.2.2.2.1⟩
      · have : d = 64 := by simpa using hd
        subst this; decide
  · have := G.hok d hd; exact ⟨this.1, this.2.1, this.2.2.1, this.2.2.2.2⟩
theorem parseAuth_plain {sc ho : Bytes} (G : GoodS sc ho) (us : PUser) (hu : GoodU us) : parseAuth sc (auth us ho) = some (us, ho) := by
  have h64 : (64 : UInt8) ∉ ho := fun h => (G.hok 64 h).2.2.2.1 rfl
  unfold parseAuth auth
  cases us with
  | none =>
    unfold pUser
    rw [List.nil_append, lastIdx_nomem 64 ho h64, if_pos (by omega), G.host]; rfl
  | some x =>
    obtain ⟨n, p, b⟩ := x
    unfold pUser
    rw [List.append_assoc, List.singleton_append, lastIdx_mid 64 _ ho h64, if_neg (by omega)]
    have e1 : (uiStr (n, p, b) ++ 64 :: ho).drop (((uiStr (n, p, b)).length : Int).toNat + 1) = ho := by
      rw [Int.toNat_natCast, ← List.drop_drop, List.drop_left]; rfl
    have e2 : (uiStr (n, p, b) ++ 64 :: ho).take (((uiStr (n, p, b)).length : Int).toNat) = uiStr (n, p, b) := by
      rw [Int.toNat_natCast, List.take_left]
    rw [e1, e2, G.host, parseUser_uiStr n p b hu]
/-- A path, plain. -/
def GoodP (pa : Bytes) : Prop := pa = [] ∨ ∃ r, pa = 47 :: r
theorem goodP_ne {pa : Bytes} (h : GoodP pa) : pa ≠ [42] := by
  rcases h with rfl | ⟨r, rfl⟩
  · simp
  · simp
theorem goodP_esc {pa : Bytes} (h : GoodP pa) : GoodP (esc 1 pa) := by
  rcases h with rfl | ⟨r, rfl⟩
  · left; rfl
  · right; exact ⟨esc 1 r, by rw [esc]; rfl⟩
def GoodQ (rq : Bytes) (fq : Bool) : Prop := (∀ d ∈ rq, d ≠ 35 ∧ isCtl d = false) ∧ (fq = true → rq = [])
/-- What stands ahead of the query: two slashes, the authority, the path. -/
def hier (us : PUser) (ho pa : Bytes) : Bytes := [47, 47] ++ auth us ho ++ esc 1 pa
theorem hier_ok {sc ho : Bytes} (G : GoodS sc ho) (us : PUser) (pa : Bytes) : ∀ d ∈ hier us ho pa, d ≠ 35 ∧ d ≠ 63 ∧ isCtl d = false := by
  intro d hd
  unfold hier at hd
  rcases List.mem_append.1 hd with hd | hd
  · rcases List.mem_append.1 hd with hd | hd
    · have : d = 47 := by simpa using hd
      subst this; decide
    · have := auth_ok G us d hd; exact ⟨this.1, this.2.1, this.2.2.2⟩
  · exact pok_no (esc_pok pa d hd)
theorem hier_cut {sc ho : Bytes} (G : GoodS sc ho) (us : PUser) (pa : Bytes) (hp : GoodP pa) : authOf (hier us ho pa) = auth us ho ∧ restOf (hier us ho pa) = esc 1 pa := by
  have h47 : (47 : UInt8) ∉ auth us ho := fun h => (auth_ok G us 47 h).2.2.1 rfl
  have hd : (hier us ho pa).drop 2 = auth us ho ++ esc 1 pa := by unfold hier; rw [List.append_assoc]; rfl
  unfold authOf restOf
  rw [hd]
  rcases goodP_esc hp with e | ⟨r, e⟩
  · rw [e, List.append_nil]
    have hc := cutB_none 47 _ h47
    refine ⟨hc.1, ?_⟩
    have h2 := hc.2
    unfold cutA at h2
    split at h2
    · rename_i h; rw [if_pos h]
    · rename_i h
      exfalso
      have h3 := fsub_hi [47] (auth us ho)
      have h4 := hc.1
      unfold cutB at h4
      rw [if_neg h] at h4
      have h5 := congrArg List.length h4
      rw [List.length_take] at h5
      simp at h3; omega
  · rw [e]
    have hc := cutB_some 47 (auth us ho) r h47
    refine ⟨hc.1, ?_⟩
    have h4 := hc.1
    have hf : ¬ fsub [47] (auth us ho ++ 47 :: r) < 0 := by
      intro hl
      unfold cutB at h4
      rw [if_pos hl] at h4
      have := congrArg List.length h4
      simp at this
    rw [if_neg hf]
    unfold cutB at h4
    rw [if_neg hf] at h4
    have h5 := congrArg List.length h4
    rw [List.length_take] at h5
    have h6 : (fsub [47] (auth us ho ++ 47 :: r)).toNat = (auth us ho).length := by
      have h7 := fsub_hi [47] (auth us ho ++ 47 :: r)
      simp at h5 h7; omega
    rw [h6, List.drop_left]
theorem parse1_plain {sc ho : Bytes} (G : GoodS sc ho) (us : PUser) (hu : GoodU us) (pa : Bytes) (hp : GoodP pa) (rq : Bytes) (fq : Bool) :
    parse1 { scheme := sc, rawq := rq, fq := fq } (hier us ho pa) false = some { scheme := sc, user := us, host := ho, path := pa, rawq := rq, fq := fq } := by
  have hc := hier_cut G us pa hp
  have hb : begins (hier us ho pa) [47, 47] = true := by unfold hier begins; simp [List.isPrefixOf]
  unfold parse1
  rw [if_pos (by rw [hb]; simp [G.ne])]
  simp only [hc.1, hc.2, parseAuth_plain G us hu]
  unfold setPath
  have hd : dec false (esc 1 pa) = some pa := dec_esc false 1 pa (by decide +kernel) (by decide) (fun h => by cases h)
  rw [hd]
  simp
theorem ends_snoc (a : Bytes) : ends (a ++ [63]) [63] = true := by
  unfold ends; rw [List.isSuffixOf_iff_suffix]; exact ⟨a, rfl⟩
theorem pq_plain {h rq : Bytes} {fq : Bool} (h63 : (63 : UInt8) ∉ h) (hq : GoodQ rq fq) : pq (h ++ pQ fq rq) = fq ∧ pRest (h ++ pQ fq rq) = h ∧ pQuery (h ++ pQ fq rq) = rq := by
  have c0 : cnt 63 h = 0 := cnt_zero 63 h h63
  have capp : ∀ a b : Bytes, cnt 63 (a ++ b) = cnt 63 a + cnt 63 b := fun a b => by unfold cnt; rw [List.filter_append, List.length_append]
  cases fq
  · by_cases hr : rq = []
    · subst hr
      have e : h ++ pQ false [] = h := by unfold pQ; simp
      rw [e]
      have hp : pq h = false := by unfold pq; rw [c0]; simp
      refine ⟨hp, ?_, ?_⟩
      · unfold pRest; rw [hp, (cutB_none 63 h h63).1]; rfl
      · unfold pQuery; rw [hp, (cutB_none 63 h h63).2]; rfl
    · have e : h ++ pQ false rq = h ++ 63 :: rq := by unfold pQ; simp [hr]
      rw [e]
      have hp : pq (h ++ 63 :: rq) = false := by
        unfold pq
        cases he : ends (h ++ 63 :: rq) [63]
        · rfl
        · rw [Bool.true_and, capp, cnt_cons, c0]
          have hl : (63 : UInt8) ∈ rq := by
            unfold ends at he
            rw [List.isSuffixOf_iff_suffix] at he
            have h1 := he.getLast (by simp)
            rw [List.getLast_singleton, List.getLast_append_of_ne_nil _ (by simp), List.getLast_cons hr] at h1
            rw [h1]
            exact List.getLast_mem hr
          have : 0 < cnt 63 rq := by
            unfold cnt
            exact List.length_pos_iff.2 (fun h0 => by
              have : (63 : UInt8) ∈ rq.filter (· == 63) := List.mem_filter.2 ⟨hl, (by decide : ((63 : UInt8) == 63) = true)⟩
              rw [h0] at this; cases this)
          simp; omega
      have hc := cutB_some 63 h rq h63
      refine ⟨hp, ?_, ?_⟩
      · unfold pRest; rw [hp, hc.1]; rfl
      · unfold pQuery; rw [hp, hc.2]; rfl
  · have hr := hq.2 rfl
    subst hr
    have e : h ++ pQ true [] = h ++ [63] := by unfold pQ; simp
    rw [e]
    have hp : pq (h ++ [63]) = true := by
      unfold pq
      rw [ends_snoc, capp, c0]; rfl
    refine ⟨hp, ?_, ?_⟩
    · unfold pRest; rw [hp, if_pos rfl]; simp
    · unfold pQuery; rw [hp, if_pos rfl]
/-- The string up to the fragment. -/
def front (sc : Bytes) (us : PUser) (ho pa rq : Bytes) (fq : Bool) : Bytes := sc ++ 58 :: (hier us ho pa ++ pQ fq rq)
theorem pQ_ok {rq : Bytes} {fq : Bool} (hq : GoodQ rq fq) : ∀ d ∈ pQ fq rq, d ≠ 35 ∧ isCtl d = false := by
  intro d hd
  unfold pQ at hd
  split at hd
  · rcases List.mem_cons.1 hd with rfl | hd
    · decide
    · exact hq.1 d hd
  · cases hd
theorem front_ok {sc ho : Bytes} (G : GoodS sc ho) (us : PUser) (pa rq : Bytes) (fq : Bool) (hq : GoodQ rq fq) : ∀ d ∈ front sc us ho pa rq fq, d ≠ 35 ∧ isCtl d = false := by
  intro d hd
  unfold front at hd
  rcases List.mem_append.1 hd with hd | hd
  · exact G.ok d hd
  · rcases List.mem_cons.1 hd with rfl | hd
    · decide
    · rcases List.mem_append.1 hd with hd | hd
      · have := hier_ok G us pa d hd; exact ⟨this.1, this.2.2⟩
      · exact pQ_ok hq d hd
theorem gs_front {sc ho : Bytes} (G : GoodS sc ho) (us : PUser) (pa rq : Bytes) (fq : Bool) : gsS (front sc us ho pa rq fq) = sc ∧ gsR (front sc us ho pa rq fq) = hier us ho pa ++ pQ fq rq := by
  unfold front gsS gsR
  rw [G.g, if_pos (by omega), if_pos (by omega), Int.toNat_natCast, List.take_left, ← List.drop_drop, List.drop_left]
  exact ⟨rfl, rfl⟩
theorem parse0_front {sc ho : Bytes} (G : GoodS sc ho) (us : PUser) (hu : GoodU us) (pa : Bytes) (hp : GoodP pa) (rq : Bytes) (fq : Bool) (hq : GoodQ rq fq) :
    parse0 (front sc us ho pa rq fq) false = some { scheme := sc, user := us, host := ho, path := pa, rawq := rq, fq := fq } := by
  have hct : ctl (front sc us ho pa rq fq) = false := by
    unfold ctl; rw [List.any_eq_false]; intro d hd; simp [(front_ok G us pa rq fq hq d hd).2]
  have h63 : (63 : UInt8) ∉ hier us ho pa := fun h => (hier_ok G us pa 63 h).2.1 rfl
  have hg := gs_front G us pa rq fq
  have hpq := pq_plain h63 hq
  have hne : front sc us ho pa rq fq ≠ [42] := by
    intro e
    have h1 := congrArg List.length e
    unfold front hier at h1
    simp at h1
    omega
  have hgs : gsc 0 (front sc us ho pa rq fq) ≠ -2 := by unfold front; rw [G.g]; omega
  have hb : begins (hier us ho pa) [47] = true := by unfold hier begins; simp [List.isPrefixOf]
  unfold parse0
  rw [hct, hg.1, hg.2, hpq.1, hpq.2.1, hpq.2.2, G.low]
  rw [if_neg (by decide), if_neg (by simp), if_neg hne, if_neg hgs]
  simp only
  rw [if_neg (by rw [hb]; simp)]
  exact parse1_plain G us hu pa hp rq fq
theorem pstr_eq {sc ho : Bytes} (G : GoodS sc ho) (us : PUser) (pa fr rq : Bytes) (fq : Bool) (hp : GoodP pa) : pstr sc us ho pa fr rq fq = front sc us ho pa rq fq ++ pF fr := by
  unfold pstr front hier auth
  rw [G.esc, escPath_nil pa (goodP_ne hp)]
  simp
theorem cut_front {sc ho : Bytes} (G : GoodS sc ho) (us : PUser) (pa fr rq : Bytes) (fq : Bool) (hp : GoodP pa) (hq : GoodQ rq fq) : cutB [35] (pstr sc us ho pa fr rq fq) = front sc us ho pa rq fq ∧ cutA [35] (pstr sc us ho pa fr rq fq) = esc 64 fr := by
  have h35 : (35 : UInt8) ∉ front sc us ho pa rq fq := fun h => (front_ok G us pa rq fq hq 35 h).1 rfl
  rw [pstr_eq G us pa fr rq fq hp]
  unfold pF
  by_cases hf : fr = []
  · subst hf
    rw [show ((if ([] : Bytes).isEmpty = true then [] else 35 :: escFrag [] []) : Bytes) = [] from rfl, List.append_nil]
    exact cutB_none 35 _ h35
  · rw [if_neg (by simpa using hf), escFrag_nil]
    exact cutB_some 35 _ _ h35
/-- The string of a plain URL is parsed into it. -/
theorem parse_pstr {sc ho : Bytes} (G : GoodS sc ho) (us : PUser) (hu : GoodU us) (pa fr : Bytes) (hp : GoodP pa) (rq : Bytes) (fq : Bool) (hq : GoodQ rq fq) :
    parse (pstr sc us ho pa fr rq fq) = some { scheme := sc, user := us, host := ho, path := pa, frag := fr, rawq := rq, fq := fq } := by
  have hc := cut_front G us pa fr rq fq hp hq
  unfold parse
  rw [hc.1, hc.2, parse0_front G us hu pa hp rq fq hq]
  simp only
  by_cases hf : fr = []
  · subst hf; rw [show esc 64 [] = [] from rfl, if_pos rfl]
  · have hne : esc 64 fr ≠ [] := by
      intro e
      have h1 := esc_length 64 fr
      rw [e] at h1
      have h2 : fr.length = 0 := by simp at h1; omega
      exact hf (List.eq_nil_of_length_eq_zero h2)
    rw [if_neg hne]
    unfold setFrag
    have hd : dec false (esc 64 fr) = some fr := dec_esc false 64 fr (by decide +kernel) (by decide) (fun h => by cases h)
    rw [hd]
    simp
theorem auth_front {sc ho : Bytes} (G : GoodS sc ho) (us : PUser) (pa rq : Bytes) (fq : Bool) (hp : GoodP pa) (hq : GoodQ rq fq) : authOf (pRest (gsR (front sc us ho pa rq fq))) = auth us ho := by
  have h63 : (63 : UInt8) ∉ hier us ho pa := fun h => (hier_ok G us pa 63 h).2.1 rfl
  rw [(gs_front G us pa rq fq).2, (pq_plain h63 hq).2.1, (hier_cut G us pa hp).1]
end NU
/-
  Plain Lean: an IPv6 address of the RFC is one that netip takes.
-/
namespace NU
set_option linter.unusedVariables false
set_option linter.unusedSimpArgs false
theorem index_split (s : Bytes) (c : UInt8) : (∀ x ∈ s.take (index s [c]), x ≠ c) ∧ (index s [c] < s.length → s = s.take (index s [c]) ++ c :: s.drop (index s [c] + 1)) := by
  induction s with
  | nil => exact ⟨by simp, by simp [index_nil]⟩
  | cons d r ih =>
    rw [index_cons, mem_cons, mem_nil, Bool.or_false]
    cases hd : d == c
    · simp only [Bool.false_eq_true, if_false]
      refine ⟨?_, ?_⟩
      · intro x hx
        rw [List.take_succ_cons] at hx
        rcases List.mem_cons.1 hx with rfl | hx
        · simpa using hd
        · exact ih.1 x hx
      · intro h
        rw [List.take_succ_cons, List.drop_succ_cons, List.cons_append, ← ih.2 (by simpa using h)]
    · have : d = c := by simpa using hd
      subst this
      simp
theorem isDigit_ev {c : UInt8} (h : isDigit c = true) : 48 ≤ c.toNat ∧ c.toNat ≤ 57 := by simpa [isDigit] using h
theorem isHex_digit {c : UInt8} (h : isDigit c = true) : isHex c = true := by
  simp [isHex, hexv, h]
  have := isDigit_ev h; omega
theorem v4f_octet (d : Bytes) (h : v4d d = true) (pos : Nat) (rest : Bytes) (hrest : ∀ dg v, 0 < dg → v4f dg v pos rest = true) : v4f 0 0 pos (d ++ rest) = true := by
  unfold v4d at h
  simp only [Bool.and_eq_true, Bool.not_eq_true', decide_eq_false_iff_not, decide_eq_true_eq] at h
  obtain ⟨⟨⟨⟨h1, h2⟩, h3⟩, h4⟩, h5⟩ := h
  match d, h1, h2, h3, h4, h5 with
  | [a], _, _, _, h4, h5 =>
    simp only [allDigits, List.all_cons, List.all_nil, Bool.and_true] at h4
    have ha := isDigit_ev h4
    show v4f 0 0 pos (a :: rest) = true
    rw [v4f, if_pos h4, hrest 1 _ (by omega)]
    simp; omega
  | [a, b], _, _, h3, h4, h5 =>
    simp only [allDigits, List.all_cons, List.all_nil, Bool.and_true, Bool.and_eq_true] at h4
    have ha := isDigit_ev h4.1
    have hb := isDigit_ev h4.2
    have ha0 : a.toNat ≠ 48 := by
      intro e
      have : a = 48 := UInt8.toNat_inj.1 e
      subst this; simp at h3
    show v4f 0 0 pos (a :: b :: rest) = true
    rw [v4f, if_pos h4.1, v4f, if_pos h4.2, hrest 2 _ (by omega)]
    simp; omega
  | [a, b, c], _, _, h3, h4, h5 =>
    simp only [allDigits, List.all_cons, List.all_nil, Bool.and_true, Bool.and_eq_true] at h4
    have ha := isDigit_ev h4.1
    have hb := isDigit_ev h4.2.1
    have hc := isDigit_ev h4.2.2
    have ha0 : a.toNat ≠ 48 := by
      intro e
      have : a = 48 := UInt8.toNat_inj.1 e
      subst this; simp at h3
    simp only [dv] at h5
    show v4f 0 0 pos (a :: b :: c :: rest) = true
    rw [v4f, if_pos h4.1, v4f, if_pos h4.2.1, v4f, if_pos h4.2.2, hrest 3 _ (by omega)]
    simp; omega
  | a :: b :: c :: e :: r, _, h2, _, _, _ => simp at h2
theorem v4go_f (r : Nat) : ∀ (pos : Nat) (s : Bytes), v4go (r + 1) s = true → pos + r = 3 → v4f 0 0 pos s = true := by
  induction r with
  | zero =>
    intro pos s h hp
    rw [v4go] at h
    simp only [Bool.and_eq_true] at h
    obtain ⟨⟨h1, h2⟩, h3⟩ := h
    have hl : index s [46] = s.length := by
      have := index_le s [46]
      simp at h2; omega
    rw [hl, List.take_length] at h1
    have := v4f_octet s h1 pos [] (fun dg v _ => by rw [v4f]; simp; omega)
    simpa using this
  | succ r ih =>
    intro pos s h hp
    rw [v4go] at h
    simp only [Bool.and_eq_true] at h
    obtain ⟨⟨h1, h2⟩, h3⟩ := h
    have hl : index s [46] < s.length := by simpa using h2
    have e := (index_split s 46).2 hl
    have h4 := ih (pos + 1) _ h3 (by omega)
    have hne : s.drop (index s [46] + 1) ≠ [] := by
      intro e; rw [e, v4go] at h3; simp [v4d] at h3
    rw [e]
    refine v4f_octet _ h1 pos _ (fun dg v hdg => ?_)
    rw [v4f, if_neg (by decide), if_pos rfl, h4]
    simp only [Bool.and_eq_true, Bool.not_eq_true', decide_eq_true_eq, Bool.and_true]
    refine ⟨⟨hdg, ?_⟩, by omega⟩
    simpa using hne
theorem isIPv4_ok (s : Bytes) (h : isIPv4 s = true) : v4ok s = true := v4go_f 3 0 s h rfl
/-- Hexadecimal digits ahead of something else. -/
theorem hexRun_app (p r : Bytes) (hp : p.all isHex = true) (hr : ∀ c, r.head? = some c → isHex c = false) : hexRun (p ++ r) = p.length := by
  induction p with
  | nil =>
    cases r with
    | nil => rfl
    | cons c r => simp [hexRun, List.findIdx_cons, hr c rfl]
  | cons c p ih =>
    simp only [List.all_cons, Bool.and_eq_true] at hp
    have := ih hp.2
    unfold hexRun at this ⊢
    rw [List.cons_append, List.findIdx_cons, this]
    simp [hp.1]
theorem v4d_hex {d : Bytes} (h : v4d d = true) : d.all isHex = true ∧ 0 < d.length ∧ d.length ≤ 3 := by
  unfold v4d at h
  simp only [Bool.and_eq_true, Bool.not_eq_true', decide_eq_false_iff_not, decide_eq_true_eq] at h
  obtain ⟨⟨⟨⟨h1, h2⟩, h3⟩, h4⟩, h5⟩ := h
  refine ⟨?_, by omega, by omega⟩
  rw [List.all_eq_true]
  intro c hc
  exact isHex_digit (List.all_eq_true.1 h4 c hc)
theorem isIPv4_run (s : Bytes) (h : isIPv4 s = true) : 0 < hexRun s ∧ hexRun s ≤ 4 ∧ (s.drop (hexRun s)).head? = some 46 := by
  unfold isIPv4 at h
  rw [v4go] at h
  simp only [Bool.and_eq_true] at h
  obtain ⟨⟨h1, h2⟩, h3⟩ := h
  have hl : index s [46] < s.length := by simpa using h2
  have e := (index_split s 46).2 hl
  obtain ⟨h4, h5, h6⟩ := v4d_hex h1
  have hr : hexRun s = (s.take (index s [46])).length := by
    have := hexRun_app (s.take (index s [46])) (46 :: s.drop (index s [46] + 1)) h4 (by intro c hc; simp at hc; subst hc; decide)
    rw [← e] at this; exact this
  have hlen : (s.take (index s [46])).length = index s [46] := by rw [List.length_take, Nat.min_eq_left (by omega)]
  generalize ht : s.take (index s [46]) = t at *
  generalize hd : s.drop (index s [46] + 1) = d at *
  rw [hr]
  refine ⟨h5, by omega, ?_⟩
  rw [e]; simp
def ipc (c : UInt8) : Bool := isHex c || c == 46 || c == 58
theorem v4go_chars (r : Nat) : ∀ s : Bytes, v4go r s = true → s.all ipc = true := by
  induction r with
  | zero => intro s h; rw [v4go] at h; have : s = [] := by simpa using h
            subst this; rfl
  | succ r ih =>
    intro s h
    rw [v4go] at h
    simp only [Bool.and_eq_true] at h
    obtain ⟨⟨h1, h2⟩, h3⟩ := h
    have h4 := (v4d_hex h1).1
    have h5 := ih _ h3
    have h6 : (s.take (index s [46])).all ipc = true := by
      rw [List.all_eq_true] at h4 ⊢
      intro c hc; simp [ipc, h4 c hc]
    by_cases hl : index s [46] < s.length
    · have e := (index_split s 46).2 hl
      rw [e, List.all_append, h6, List.all_cons, h5]; rfl
    · rw [List.take_of_length_le (by omega)] at h6; exact h6
/-- One round of the pieces. -/
theorem pcs_step (last : Bool) (f n : Nat) (s : Bytes) (h : 0 ≤ pcs last (f + 1) n s) :
    (last = true ∧ isIPv4 s = true ∧ pcs last (f + 1) n s = (n : Int) + 2) ∨
    (∃ p, p.all isHex = true ∧ 0 < p.length ∧ p.length ≤ 4 ∧ ((s = p ∧ pcs last (f + 1) n s = (n : Int) + 1) ∨
      (∃ r, s = p ++ 58 :: r ∧ pcs last (f + 1) n s = pcs last f (n + 1) r ∧ 0 ≤ pcs last f (n + 1) r))) := by
  have e0 : pcs last (f + 1) n s = pcs last (f + 1) n s := rfl
  conv at e0 => rhs; rw [pcs]
  rw [e0] at h ⊢
  have hle := index_le s [58]
  split at h
  · rename_i h1
    left
    rw [if_pos h1]
    refine ⟨h1.2.1, ?_, rfl⟩
    have := h1.2.2
    rwa [h1.1, List.take_length] at this
  · rename_i h1
    rw [if_neg h1]
    split at h
    · exact absurd h (by decide)
    · rename_i h2
      rw [if_neg h2]
      split at h
      · exact absurd h (by decide)
      · rename_i h3
        rw [if_neg h3]
        have h3' : (s.take (index s [58])).all isHex = true := by simpa using h3
        have hl : (s.take (index s [58])).length = index s [58] := by rw [List.length_take, Nat.min_eq_left hle]
        right
        refine ⟨s.take (index s [58]), h3', by omega, by omega, ?_⟩
        split at h
        · rename_i h4
          rw [if_pos h4]
          exact .inl ⟨by rw [h4, List.take_length], rfl⟩
        · rename_i h4
          rw [if_neg h4]
          exact .inr ⟨_, (index_split s 58).2 (by omega), rfl, h⟩
theorem pcs_zero (last : Bool) (n : Nat) (s : Bytes) (h : 0 ≤ pcs last 0 n s) : False := by rw [pcs] at h; exact absurd h (by decide)
theorem pcs_chars (last : Bool) (f : Nat) : ∀ (n : Nat) (s : Bytes), 0 ≤ pcs last f n s → s.all ipc = true := by
  induction f with
  | zero => intro n s h; exact (pcs_zero last n s h).elim
  | succ f ih =>
    intro n s h
    have hh : ∀ p : Bytes, p.all isHex = true → p.all ipc = true := by
      intro p hp; rw [List.all_eq_true] at hp ⊢; intro c hc; simp [ipc, hp c hc]
    rcases pcs_step last f n s h with ⟨_, h1, _⟩ | ⟨p, h1, h2, h3, ⟨rfl, _⟩ | ⟨r, rfl, _, h4⟩⟩
    · exact v4go_chars 4 s h1
    · exact hh _ h1
    · rw [List.all_append, hh p h1, List.all_cons, ih _ _ h4]; rfl
theorem ipv4_ne : isIPv4 [] = false := by decide
/-- What pieces are made of opens with no colon. -/
theorem pcs_head (last : Bool) (f n : Nat) (s : Bytes) (h : 0 ≤ pcs last f n s) : ∃ d r, s = d :: r ∧ d ≠ 58 := by
  cases f with
  | zero => exact (pcs_zero last n s h).elim
  | succ f =>
    have hx : ∀ p t : Bytes, p.all isHex = true → 0 < p.length → ∃ d r, p ++ t = d :: r ∧ d ≠ 58 := by
      intro p t hp hl
      cases p with
      | nil => simp at hl
      | cons c p =>
        refine ⟨c, p ++ t, rfl, ?_⟩
        intro e; subst e; simp at hp; exact absurd hp.1 (by decide)
    rcases pcs_step last f n s h with ⟨_, h1, _⟩ | ⟨p, h1, h2, h3, ⟨rfl, _⟩ | ⟨r, rfl, _, _⟩⟩
    · have hr := isIPv4_run s h1
      cases s with
      | nil => rw [ipv4_ne] at h1; cases h1
      | cons d r =>
        refine ⟨d, r, rfl, ?_⟩
        have h3 : isHex d = true := hexRun_hex (d :: r) 0 hr.1 (by simp)
        intro e; rw [e] at h3; exact absurd h3 (by decide)
    · simpa using hx _ [] h1 h2
    · exact hx p _ h1 h2
theorem pcs_ge (last : Bool) (f : Nat) : ∀ (n : Nat) (s : Bytes), 0 ≤ pcs last f n s → (n : Int) + 1 ≤ pcs last f n s := by
  induction f with
  | zero => intro n s h; exact (pcs_zero last n s h).elim
  | succ f ih =>
    intro n s h
    rcases pcs_step last f n s h with ⟨_, _, h1⟩ | ⟨p, _, _, _, ⟨_, h1⟩ | ⟨r, _, h1, h4⟩⟩
    · omega
    · omega
    · have := ih _ _ h4; rw [h1]; omega
theorem v6go_dot {m i : Nat} {e : Bool} {s : Bytes} (hi : i < 16) (h1 : 0 < hexRun s) (h2 : hexRun s ≤ 4) (h3 : (s.drop (hexRun s)).head? = some 46) :
    v6go (m + 1) i e s = ((e || i == 12) && decide (i + 4 ≤ 16) && v4ok s && (if i + 4 < 16 then e else !e)) := by
  rw [v6go, if_neg (by omega), if_neg (by omega), if_pos h3]
theorem run_app {p r : Bytes} (hp : p.all isHex = true) (hr : ∀ c, r.head? = some c → isHex c = false) : hexRun (p ++ r) = p.length ∧ (p ++ r).drop (hexRun (p ++ r)) = r := by
  have := hexRun_app p r hp hr
  exact ⟨this, by rw [this]; simp⟩
theorem v6go_end {m i : Nat} {e : Bool} {p : Bytes} (hi : i < 16) (h1 : 0 < p.length) (h2 : p.length ≤ 4) (hp : p.all isHex = true) :
    v6go (m + 1) i e p = if i + 2 < 16 then e else !e := by
  obtain ⟨h3, h4⟩ := run_app (p := p) (r := []) hp (by simp)
  rw [List.append_nil] at h3 h4
  rw [v6go, if_neg (by omega), if_neg (by omega), h4]
  simp
theorem v6go_colon {m i : Nat} {e : Bool} {p r : Bytes} {d : UInt8} (hi : i < 16) (h1 : 0 < p.length) (h2 : p.length ≤ 4) (hp : p.all isHex = true) (hd : d ≠ 58) :
    v6go (m + 1) i e (p ++ 58 :: d :: r) = v6go m (i + 2) e (d :: r) := by
  obtain ⟨h3, h4⟩ := run_app (p := p) (r := 58 :: d :: r) hp (by intro c hc; simp at hc; subst hc; decide)
  rw [v6go, if_neg (by omega), if_neg (by omega), h4]
  simp [hd]
theorem v6go_dbl {m i : Nat} {p r : Bytes} (hi : i < 16) (h1 : 0 < p.length) (h2 : p.length ≤ 4) (hp : p.all isHex = true) :
    v6go (m + 1) i false (p ++ 58 :: 58 :: r) = if r = [] then decide (i + 2 < 16) else v6go m (i + 2) true r := by
  obtain ⟨h3, h4⟩ := run_app (p := p) (r := 58 :: 58 :: r) hp (by intro c hc; simp at hc; subst hc; decide)
  rw [v6go, if_neg (by omega), if_neg (by omega), h4]
  simp
/-- The pieces behind the ellipsis, or all of them. -/
theorem v6go_tail (f : Nat) : ∀ (n : Nat) (s : Bytes) (k i m : Nat) (e : Bool), pcs true f n s = (n : Int) + k → i + 2 * k ≤ 16 → v6end (i + 2 * k) e = true → k ≤ m → v6go m i e s = true := by
  induction f with
  | zero => intro n s k i m e h; exact (pcs_zero true n s (by omega)).elim
  | succ f ih =>
    intro n s k i m e h hi he hm
    have hk := pcs_ge true (f + 1) n s (by omega)
    obtain ⟨m, rfl⟩ : ∃ m', m = m' + 1 := ⟨m - 1, by omega⟩
    rcases pcs_step true f n s (by omega) with ⟨_, h1, h2⟩ | ⟨p, h1, h2, h3, ⟨rfl, h4⟩ | ⟨r, rfl, h4, h5⟩⟩
    · have : k = 2 := by omega
      subst this
      obtain ⟨g1, g2, g3⟩ := isIPv4_run s h1
      rw [v6go_dot (by omega) g1 g2 g3, isIPv4_ok s h1]
      have he' : v6end (i + 4) e = true := he
      unfold v6end at he'
      simp only [Bool.and_eq_true, Bool.or_eq_true, decide_eq_true_eq, beq_iff_eq, Bool.and_true]
      refine ⟨⟨?_, by omega⟩, he'⟩
      split at he'
      · exact .inl he'
      · right; omega
    · have : k = 1 := by omega
      subst this
      rw [v6go_end (by omega) h2 h3 h1]
      exact he
    · obtain ⟨d, t, rfl, hd⟩ := pcs_head _ _ _ _ h5
      rw [v6go_colon (by omega) h2 h3 h1 hd]
      rw [h] at h4
      have h6 := pcs_ge _ _ _ _ h5
      obtain ⟨k, rfl⟩ : ∃ k', k = k' + 1 := ⟨k - 1, by omega⟩
      refine ih (n + 1) _ k (i + 2) m e (by omega) (by omega) ?_ (by omega)
      rw [show i + 2 + 2 * k = i + 2 * (k + 1) by omega]; exact he
/-- The pieces ahead of the ellipsis. -/
theorem v6go_front (f : Nat) : ∀ (n : Nat) (a b : Bytes) (k i m : Nat), pcs false f n a = (n : Int) + k → i + 2 * k < 16 → k ≤ m → (b = [] ∨ v6go (m - k) (i + 2 * k) true b = true) → v6go m i false (a ++ 58 :: 58 :: b) = true := by
  induction f with
  | zero => intro n a b k i m h; exact (pcs_zero false n a (by omega)).elim
  | succ f ih =>
    intro n a b k i m h hi hm hb
    have hk := pcs_ge false (f + 1) n a (by omega)
    obtain ⟨m, rfl⟩ : ∃ m', m = m' + 1 := ⟨m - 1, by omega⟩
    rcases pcs_step false f n a (by omega) with ⟨h1, _, _⟩ | ⟨p, h1, h2, h3, ⟨rfl, h4⟩ | ⟨r, rfl, h4, h5⟩⟩
    · cases h1
    · have : k = 1 := by omega
      subst this
      rw [v6go_dbl (by omega) h2 h3 h1]
      split
      · simpa using hi
      · rename_i hne
        rcases hb with hb | hb
        · exact absurd hb hne
        · simpa using hb
    · obtain ⟨d, t, rfl, hd⟩ := pcs_head _ _ _ _ h5
      rw [List.append_assoc, List.cons_append, List.cons_append, v6go_colon (by omega) h2 h3 h1 hd]
      rw [h] at h4
      have h6 := pcs_ge _ _ _ _ h5
      obtain ⟨k, rfl⟩ : ∃ k', k = k' + 1 := ⟨k - 1, by omega⟩
      refine ih (n + 1) (d :: t) b k (i + 2) m (by omega) (by omega) (by omega) ?_
      rcases hb with hb | hb
      · exact .inl hb
      · right
        rw [show m - k = m + 1 - (k + 1) by omega, show i + 2 + 2 * k = i + 2 * (k + 1) by omega]; exact hb
theorem fsub_at : ∀ s : Bytes, ¬ fsub [58, 58] s < 0 → s = s.take (fsub [58, 58] s).toNat ++ 58 :: 58 :: s.drop ((fsub [58, 58] s).toNat + 2)
  | [], h => absurd (by decide) h
  | [c], h => absurd (by rw [fsub_short _ (by simp)]; decide) h
  | c :: d :: r, h => by
    rw [fsub_dbl] at h ⊢
    split
    · rename_i hcd
      simp only [Bool.and_eq_true, beq_iff_eq] at hcd
      obtain ⟨rfl, rfl⟩ := hcd
      rfl
    · rename_i hcd
      rw [if_neg hcd] at h
      split at h
      · exact absurd (by decide) h
      · rename_i h2
        rw [if_neg h2]
        have ih := fsub_at (d :: r) h2
        have e : (fsub [58, 58] (d :: r) + 1).toNat = (fsub [58, 58] (d :: r)).toNat + 1 := by omega
        rw [e, List.take_succ_cons, show (fsub [58, 58] (d :: r)).toNat + 1 + 2 = ((fsub [58, 58] (d :: r)).toNat + 2) + 1 by omega, List.drop_succ_cons, List.cons_append, ← ih]
theorem begins_no (d : UInt8) (r : Bytes) (h : d ≠ 58) : begins (d :: r) [58, 58] = false := by
  simp [begins, List.isPrefixOf, Ne.symm h]
theorem begins_no2 (s : Bytes) (h : fsub [58, 58] s < 0) : begins s [58, 58] = false := by
  match s with
  | [] => rfl
  | [c] => simp [begins, List.isPrefixOf]
  | c :: d :: r =>
    rw [fsub_dbl] at h
    split at h
    · exact absurd h (by decide)
    · rename_i hcd
      simp only [begins, List.isPrefixOf, Bool.and_true]
      rw [show ((58 : UInt8) == c) = (c == 58) from Bool.beq_comm, show ((58 : UInt8) == d) = (d == 58) from Bool.beq_comm]
      simpa using hcd
/-- Where a colon stands behind hexadecimal digits alone. -/
theorem colon_first (p r : Bytes) (hp : p.all isHex = true) : ((p ++ 58 :: r).drop (index (p ++ 58 :: r) [46, 58, 37])).head? = some 58 := by
  induction p with
  | nil => rfl
  | cons c p ih =>
    simp only [List.all_cons, Bool.and_eq_true] at hp
    have hc : mem [46, 58, 37] c = false := by
      have : ∀ n : Fin 256, isHex (UInt8.ofNat n.val) = true → mem [46, 58, 37] (UInt8.ofNat n.val) = false := by decide +kernel
      have h2 := this ⟨c.toNat, c.toNat_lt⟩
      have h3 : UInt8.ofNat c.toNat = c := by simp
      simp only [h3] at h2
      exact h2 hp.1
    rw [List.cons_append, index_cons, hc]
    simp only [Bool.false_eq_true, if_false, List.drop_succ_cons]
    exact ih hp.2
theorem no37 {s : Bytes} (h : s.all ipc = true) : (37 : UInt8) ∉ s := by
  intro e
  exact absurd (List.all_eq_true.1 h 37 e) (by decide)
theorem isIPv6_v6b (s : Bytes) (h : isIPv6 s = true) : v6b s = true ∧ s.all ipc = true ∧ (s.drop (index s [46, 58, 37])).head? = some 58 := by
  unfold isIPv6 at h
  split at h
  · rename_i hf
    have h8 : pieces s true = 8 := by simpa using h
    unfold pieces at h8
    split at h8
    · exact absurd h8 (by decide)
    · have hb := begins_no2 s hf
      refine ⟨?_, pcs_chars true (s.length + 1) 0 s (by omega), ?_⟩
      · rw [v6b, if_neg (by simp [hb])]
        exact v6go_tail _ 0 s 8 0 9 false (by rw [h8]; rfl) (by omega) rfl (by omega)
      · rcases pcs_step true s.length 0 s (by omega) with ⟨_, _, h2⟩ | ⟨p, h1, h2, h3, ⟨rfl, h4⟩ | ⟨r, rfl, h4, h5⟩⟩
        · omega
        · omega
        · exact colon_first p r h1
  · rename_i hf
    simp only [Bool.and_eq_true, decide_eq_true_eq] at h
    obtain ⟨⟨h1, h2⟩, h3⟩ := h
    have e := fsub_at s hf
    generalize ha : s.take (fsub [58, 58] s).toNat = a at h1 h3 e
    generalize hb : s.drop ((fsub [58, 58] s).toNat + 2) = b at h2 h3 e
    clear ha hb hf
    subst e
    have hbv : ∀ i m : Nat, (i : Int) + 2 * pieces b true < 16 → pieces b true ≤ (m : Int) → b = [] ∨ v6go m i true b = true := by
      intro i m h4 h5
      unfold pieces at h2 h4 h5
      split at h2
      · rename_i hb; exact .inl hb
      · rename_i hb
        rw [if_neg hb] at h4 h5
        right
        obtain ⟨k, hk⟩ := Int.eq_ofNat_of_zero_le h2
        rw [hk] at h4 h5
        refine v6go_tail _ 0 b k i m true (by rw [hk]; simp) (by omega) ?_ (by omega)
        unfold v6end; rw [if_pos (by omega)]
    have hbc : b.all ipc = true := by
      unfold pieces at h2
      split at h2
      · rename_i hb; subst hb; rfl
      · exact pcs_chars true _ 0 b h2
    unfold pieces at h1 h3
    split at h1
    · rename_i ha
      subst ha
      rw [if_pos rfl] at h3
      change 0 + pieces b true ≤ 7 at h3
      refine ⟨?_, ?_, rfl⟩
      · show v6b (58 :: 58 :: b) = true
        rw [v6b, if_pos (by rfl)]
        show (if b = [] then true else v6go 9 0 true b) = true
        split
        · rfl
        · rename_i hb
          exact (hbv 0 9 (by omega) (by omega)).resolve_left hb
      · show (58 :: 58 :: b).all ipc = true
        rw [List.all_cons, List.all_cons, hbc]; rfl
    · rename_i ha
      rw [if_neg ha] at h3
      change _ + pieces b true ≤ 7 at h3
      have hac := pcs_chars false _ 0 a h1
      obtain ⟨k, hk⟩ := Int.eq_ofNat_of_zero_le h1
      rw [hk] at h3
      have h2' : 0 ≤ pieces b true := h2
      obtain ⟨d, t, hd, hd8⟩ := pcs_head _ _ _ _ h1
      refine ⟨?_, ?_, ?_⟩
      · rw [v6b, if_neg (by rw [hd, List.cons_append, begins_no d _ hd8]; simp)]
        refine v6go_front _ 0 a b k 0 9 (by rw [hk]; simp) (by omega) (by omega) ?_
        exact hbv (0 + 2 * k) (9 - k) (by omega) (by omega)
      · rw [List.all_append, hac, List.all_cons, List.all_cons, hbc]; rfl
      · rcases pcs_step false _ 0 a h1 with ⟨h4, _, _⟩ | ⟨p, h4, h5, h6, ⟨rfl, _⟩ | ⟨r, rfl, _, _⟩⟩
        · cases h4
        · exact colon_first a _ h4
        · rw [List.append_assoc]; exact colon_first p _ h4
theorem isIPv6_addr6 (s : Bytes) (h : isIPv6 s = true) : addr6 s = true := by
  obtain ⟨h1, h2, h3⟩ := isIPv6_v6b s h
  have h4 := no37 h2
  unfold addr6 v6
  rw [h3, if_neg, h1]
  · rfl
  · have := mem_index s 37
    have h5 : mem s 37 = false := by
      cases e : mem s 37
      · rfl
      · exact absurd (by simpa [mem] using e) h4
    rw [h5] at this
    simpa using this.symm
end NU
/-
  Plain Lean: valid references are parsed, the same way by Parse and by ParseRequestURI.
-/
namespace NU
set_option linter.unusedVariables false
set_option linter.unusedSimpArgs false
def pcb (more : Bytes) (c : UInt8) : Bool := unreserved c || mem [33, 36, 38, 39, 40, 41, 42, 43, 44, 59, 61] c || mem more c
theorem hexv_unres {c : UInt8} (h : 0 ≤ hexv c) : unreserved c = true := by
  have : ∀ n : Fin 256, 0 ≤ hexv (UInt8.ofNat n.val) → unreserved (UInt8.ofNat n.val) = true := by decide +kernel
  have h2 := this ⟨c.toNat, c.toNat_lt⟩
  have h3 : UInt8.ofNat c.toNat = c := by simp
  simp only [h3] at h2
  exact h2 h
theorem chars_all (more : Bytes) (p : Bool) (n : Nat) : ∀ s : Bytes, s.length ≤ n → chars more p s = true → ∀ c ∈ s, pcb more c = true ∨ (c = 37 ∧ p = true) := by
  induction n with
  | zero => intro s hn h; have : s = [] := List.eq_nil_of_length_eq_zero (by omega); subst this; simp
  | succ n ih =>
    intro s hn h
    match s with
    | [] => simp
    | c :: r =>
      simp only [List.length_cons] at hn
      by_cases hc : c = 37
      · subst hc
        match r with
        | [] => rw [chars_short _ _ _ (by simp)] at h; cases h
        | [a] => rw [chars_short _ _ _ (by simp)] at h; cases h
        | a :: b :: r' =>
          rw [chars_pct] at h
          simp only [Bool.and_eq_true, decide_eq_true_eq] at h
          simp only [List.length_cons] at hn
          intro d hd
          simp only [List.mem_cons] at hd
          rcases hd with rfl | rfl | rfl | hd
          · exact .inr ⟨rfl, h.1.1.1⟩
          · left; simp [pcb, hexv_unres h.1.1.2]
          · left; simp [pcb, hexv_unres h.1.2]
          · exact ih r' (by omega) h.2 d hd
      · rw [chars_other _ _ _ _ (by simpa using hc), Bool.and_eq_true] at h
        intro d hd
        rcases List.mem_cons.1 hd with rfl | hd
        · exact .inl h.1
        · exact ih r (by omega) h.2 d hd
theorem chars_vet0 (more : Bytes) (p : Bool) (n : Nat) : ∀ s : Bytes, s.length ≤ n → chars more p s = true → vet 0 s = true := by
  induction n with
  | zero => intro s hn h; have : s = [] := List.eq_nil_of_length_eq_zero (by omega); subst this; rfl
  | succ n ih =>
    intro s hn h
    match s with
    | [] => rfl
    | c :: r =>
      simp only [List.length_cons] at hn
      by_cases hc : c = 37
      · subst hc
        match r with
        | [] => rw [chars_short _ _ _ (by simp)] at h; cases h
        | [a] => rw [chars_short _ _ _ (by simp)] at h; cases h
        | a :: b :: r' =>
          rw [chars_pct] at h
          simp only [Bool.and_eq_true, decide_eq_true_eq] at h
          simp only [List.length_cons] at hn
          rw [vet_pct, ih r' (by omega) h.2]
          simp [vetP, h.1.1.2, h.1.2]
      · rw [chars_other _ _ _ _ (by simpa using hc), Bool.and_eq_true] at h
        by_cases h4 : c = 43
        · subst h4; rw [vet_plus]; exact ih r (by omega) h.2
        · rw [vet_other _ _ _ hc h4, ih r (by omega) h.2]; simp [vetC]
theorem chars_dec {more : Bytes} {p : Bool} {s : Bytes} (h : chars more p s = true) : ∃ x, dec false s = some x :=
  Option.isSome_iff_exists.1 (vet_dec 0 false s.length s (Nat.le_refl _) (chars_vet0 more p s.length s (Nat.le_refl _) h))
theorem chars_app (m : Bytes) (b : Bytes) (n : Nat) : ∀ a : Bytes, a.length ≤ n → chars m true (a ++ 58 :: b) = true → chars m true a = true ∧ chars m true b = true := by
  induction n with
  | zero =>
    intro a hn h
    have : a = [] := List.eq_nil_of_length_eq_zero (by omega)
    subst this
    rw [List.nil_append, chars_other _ _ _ _ (by decide), Bool.and_eq_true] at h
    exact ⟨chars_nil _ _, h.2⟩
  | succ n ih =>
    intro a hn h
    match a with
    | [] =>
      rw [List.nil_append, chars_other _ _ _ _ (by decide), Bool.and_eq_true] at h
      exact ⟨chars_nil _ _, h.2⟩
    | c :: r =>
      simp only [List.length_cons] at hn
      by_cases hc : c = 37
      · subst hc
        match r with
        | [] =>
          match b with
          | [] => rw [show [37] ++ 58 :: ([] : Bytes) = 37 :: [58] from rfl, chars_short _ _ _ (by simp)] at h; cases h
          | y :: b =>
            rw [show [37] ++ 58 :: y :: b = 37 :: 58 :: y :: b from rfl, chars_pct] at h
            simp only [Bool.and_eq_true, decide_eq_true_eq] at h
            exact absurd h.1.1.2 (by decide)
        | [x] =>
          rw [show [37, x] ++ 58 :: b = 37 :: x :: 58 :: b from rfl, chars_pct] at h
          simp only [Bool.and_eq_true, decide_eq_true_eq] at h
          exact absurd h.1.2 (by decide)
        | x :: y :: r' =>
          rw [show 37 :: x :: y :: r' ++ 58 :: b = 37 :: x :: y :: (r' ++ 58 :: b) from rfl, chars_pct] at h
          rw [chars_pct]
          simp only [Bool.and_eq_true, decide_eq_true_eq] at h ⊢
          simp only [List.length_cons] at hn
          have := ih r' (by omega) h.2
          exact ⟨⟨h.1, this.1⟩, this.2⟩
      · rw [List.cons_append, chars_other _ _ _ _ (by simpa using hc), Bool.and_eq_true] at h
        rw [chars_other _ _ _ _ (by simpa using hc), Bool.and_eq_true]
        have := ih r (by omega) h.2
        exact ⟨⟨h.1, this.1⟩, this.2⟩
theorem fsub_none (c : UInt8) (s : Bytes) (h : c ∉ s) : fsub [c] s = -1 := by
  induction s with
  | nil => rfl
  | cons d r ih =>
    simp at h
    rw [fsub_one_cons, ih h.2, if_neg (by simpa using fun e => h.1 e.symm)]; rfl
theorem fsub_some (c : UInt8) (a b : Bytes) (h : c ∉ a) : fsub [c] (a ++ c :: b) = a.length := by
  induction a with
  | nil => rw [List.nil_append, fsub_one_cons, if_pos (by simp)]; rfl
  | cons d r ih =>
    simp at h
    rw [List.cons_append, fsub_one_cons, ih h.2, if_neg (by simpa using fun e => h.1 e.symm), if_neg (by omega)]; simp
theorem parseUser_ok (ui : Bytes) (h : chars [58] true ui = true) : ∃ x, parseUser ui = some x := by
  have hv : validUserinfo ui = true := chars_uiOk _ ui (Nat.le_refl _) h
  unfold parseUser
  rw [if_neg (by simp [hv])]
  by_cases hm : (58 : UInt8) ∈ ui
  · obtain ⟨x, y, rfl, hx⟩ := first_split 58 ui hm
    have hc := chars_app [58] y x.length x (Nat.le_refl _) h
    obtain ⟨u, hu⟩ := chars_dec hc.1
    obtain ⟨p, hp⟩ := chars_dec hc.2
    rw [if_neg (by rw [fsub_some 58 x y hx]; omega), (cutB_some 58 x y hx).1, (cutB_some 58 x y hx).2, hu, hp]
    exact ⟨_, rfl⟩
  · obtain ⟨u, hu⟩ := chars_dec h
    rw [if_pos (by rw [fsub_none 58 ui hm]; decide), hu]
    exact ⟨_, rfl⟩
theorem vet_all (m : UInt8) (s : Bytes) (h : ∀ c ∈ s, c ≠ 37 ∧ vetC m c = true) : vet m s = true := by
  induction s with
  | nil => rfl
  | cons c r ih =>
    simp only [List.mem_cons, forall_eq_or_imp] at h
    by_cases h4 : c = 43
    · subst h4; rw [vet_plus]; exact ih h.2
    · rw [vet_other _ _ _ h.1.1 h4, h.1.2, ih h.2]; rfl
theorem uns_all (s : Bytes) (h : ∀ c ∈ s, c ≠ 37 ∧ vetC 4 c = true) : uns 4 s = some s := by
  rw [uns_nopct 4 s (fun c hc => (h c hc).1), vet_all 4 s h]; rfl
/-- What may stand in a host's name, in its port. -/
theorem host_chars {c : UInt8} (h : pcb [] c = true ∨ c = 58 ∨ isDigit c = true ∨ ipc c = true) : c ≠ 37 ∧ c ≠ 91 ∧ c ≠ 93 ∧ c ≠ 64 ∧ c ≠ 47 ∧ c ≠ 63 ∧ c ≠ 35 ∧ isCtl c = false ∧ vetC 4 c = true := by
  have : ∀ n : Fin 256, (pcb [] (UInt8.ofNat n.val) = true ∨ (UInt8.ofNat n.val) = 58 ∨ isDigit (UInt8.ofNat n.val) = true ∨ ipc (UInt8.ofNat n.val) = true) →
    (UInt8.ofNat n.val) ≠ 37 ∧ (UInt8.ofNat n.val) ≠ 91 ∧ (UInt8.ofNat n.val) ≠ 93 ∧ (UInt8.ofNat n.val) ≠ 64 ∧ (UInt8.ofNat n.val) ≠ 47 ∧ (UInt8.ofNat n.val) ≠ 63 ∧ (UInt8.ofNat n.val) ≠ 35 ∧ isCtl (UInt8.ofNat n.val) = false ∧ vetC 4 (UInt8.ofNat n.val) = true := by decide +kernel
  have h2 := this ⟨c.toNat, c.toNat_lt⟩
  have h3 : UInt8.ofNat c.toNat = c := by simp
  simp only [h3] at h2
  exact h2 h
theorem port_chars {p : Bytes} (h : optPort p = true) : ∀ c ∈ p, c = 58 ∨ isDigit c = true := by
  cases p with
  | nil => simp
  | cons d r =>
    simp only [optPort, Bool.and_eq_true, beq_iff_eq] at h
    intro c hc
    rcases List.mem_cons.1 hc with rfl | hc
    · exact .inl h.1
    · exact .inr (List.all_eq_true.1 h.2 c hc)
theorem isIPv6_chars {a : Bytes} (h : isIPv6 a = true) : ∀ c ∈ a, ipc c = true := List.all_eq_true.1 (isIPv6_v6b a h).2.1
/-- The two forms of a host. -/
def HostB (h : Bytes) : Prop := ∃ a p, h = 91 :: (a ++ 93 :: p) ∧ isIPv6 a = true ∧ optPort p = true
def HostN (h : Bytes) : Prop := ∃ n p, h = n ++ p ∧ chars [] false n = true ∧ optPort p = true ∧ (58 : UInt8) ∉ n
theorem au_forms (h : Bytes) (h1 : auHok h = true) (h2 : optPort (auS h) = true) : HostB h ∨ HostN h := by
  unfold auHok at h1
  unfold auS at h2
  by_cases hb : begins h [91] = true
  · rw [if_pos hb] at h1 h2
    cases h with
    | nil => exact absurd hb (by decide)
    | cons c t =>
      have hc : c = 91 := by simp [begins, List.isPrefixOf] at hb; exact hb.symm
      subst hc
      have hi : index (91 :: t) [93] = index t [93] + 1 := by rw [index_cons]; rfl
      rw [hi] at h1 h2
      simp only [Bool.and_eq_true, decide_eq_true_eq, List.length_cons] at h1
      rw [List.take_succ_cons, List.drop_succ_cons, List.drop_zero] at h1
      rw [List.drop_succ_cons] at h2
      exact .inl ⟨t.take (index t [93]), t.drop (index t [93] + 1), by rw [← (index_split t 93).2 (by omega)], h1.2, h2⟩
  · rw [if_neg hb] at h1 h2
    refine .inr ⟨h.take (index h [58]), h.drop (index h [58]), (List.take_append_drop _ _).symm, h1, h2, ?_⟩
    intro hm
    exact (index_split h 58).1 58 hm rfl
theorem hostB_chars {h : Bytes} (hb : HostB h) : ∀ c ∈ h, c ≠ 64 ∧ c ≠ 47 ∧ c ≠ 63 ∧ c ≠ 35 ∧ isCtl c = false := by
  obtain ⟨a, p, rfl, ha, hp⟩ := hb
  intro c hc
  simp only [List.mem_cons, List.mem_append] at hc
  rcases hc with rfl | hc | rfl | hc
  · decide
  · have := host_chars (.inr (.inr (.inr (isIPv6_chars ha c hc)))); exact ⟨this.2.2.2.1, this.2.2.2.2.1, this.2.2.2.2.2.1, this.2.2.2.2.2.2.1, this.2.2.2.2.2.2.2.1⟩
  · decide
  · have := host_chars (c := c) ((port_chars hp c hc).elim (fun e => .inr (.inl e)) (fun e => .inr (.inr (.inl e)))); exact ⟨this.2.2.2.1, this.2.2.2.2.1, this.2.2.2.2.2.1, this.2.2.2.2.2.2.1, this.2.2.2.2.2.2.2.1⟩
theorem hostN_chars {h : Bytes} (hb : HostN h) : ∀ c ∈ h, c ≠ 37 ∧ c ≠ 91 ∧ c ≠ 93 ∧ c ≠ 64 ∧ c ≠ 47 ∧ c ≠ 63 ∧ c ≠ 35 ∧ isCtl c = false ∧ vetC 4 c = true := by
  obtain ⟨n, p, rfl, hn, hp, _⟩ := hb
  intro c hc
  rcases List.mem_append.1 hc with hc | hc
  · rcases chars_all [] false n.length n (Nat.le_refl _) hn c hc with h | h
    · exact host_chars (.inl h)
    · cases h.2
  · exact host_chars (c := c) ((port_chars hp c hc).elim (fun e => .inr (.inl e)) (fun e => .inr (.inr (.inl e))))
theorem fsub3_none (s : Bytes) (h : (37 : UInt8) ∉ s) : fsub [37, 50, 53] s < 0 := by
  induction s with
  | nil => decide
  | cons c r ih =>
    simp at h
    have h1 : ([37, 50, 53] : Bytes).isPrefixOf (c :: r) = false := by
      simp [List.isPrefixOf]; intro e; exact absurd e h.1
    rw [fsub, h1]
    simp only [Bool.false_eq_true, if_false]
    rw [if_pos (ih h.2)]; decide
theorem parseHost_B (sc h : Bytes) (hb : HostB h) : parseHost sc h = some h := by
  obtain ⟨a, p, rfl, ha, hp⟩ := hb
  have hac := fun c hc => host_chars (c := c) (.inr (.inr (.inr (isIPv6_chars ha c hc))))
  have hpc := fun c (hc : c ∈ p) => host_chars (c := c) ((port_chars hp c hc).elim (fun e => .inr (.inl e)) (fun e => .inr (.inr (.inl e))))
  have e91 : lastIdx 91 (91 :: (a ++ 93 :: p)) = 0 := by
    have := lastIdx_mid 91 [] (a ++ 93 :: p) (by
      intro hm
      simp only [List.mem_cons, List.mem_append] at hm
      rcases hm with hm | hm | hm
      · exact (hac _ hm).2.1 rfl
      · exact absurd hm (by decide)
      · exact (hpc _ hm).2.1 rfl)
    simpa using this
  have e93 : lastIdx 93 (91 :: (a ++ 93 :: p)) = (a.length + 1 : Nat) := by
    have := lastIdx_mid 93 (91 :: a) p (fun hm => (hpc _ hm).2.2.1 rfl)
    simpa using this
  have d1 : (91 :: (a ++ 93 :: p)).drop (a.length + 1 + 1) = p := by
    rw [List.drop_succ_cons]
    have : (a ++ 93 :: p).drop (a.length + 1) = p := by rw [← List.drop_drop, List.drop_left]; rfl
    exact this
  have d2 : ((91 :: (a ++ 93 :: p)).take (a.length + 1)).drop 1 = a := by
    rw [List.take_succ_cons, List.take_left]; rfl
  have hbb : hostB (91 :: (a ++ 93 :: p)) = some a := by
    unfold hostB
    rw [e93]
    simp only [Int.toNat_natCast, d2]
    rw [if_neg (by have := fsub3_none a (fun hm => (hac _ hm).1 rfl); omega), uns_all a (fun c hc => ⟨(hac c hc).1, (hac c hc).2.2.2.2.2.2.2.2⟩)]
  unfold parseHost
  rw [e91, if_neg (by decide), if_pos rfl, e93, if_neg (by omega)]
  simp only [Int.toNat_natCast, d1]
  rw [if_neg (by simp [hp]), uns_all p (fun c hc => ⟨(hpc c hc).1, (hpc c hc).2.2.2.2.2.2.2.2⟩), hbb]
  simp [isIPv6_addr6 a ha]
theorem parseHost_N (sc h : Bytes) (hb : HostN h) : parseHost sc h = some h := by
  have hc := hostN_chars hb
  obtain ⟨n, p, rfl, hn, hp, h58⟩ := hb
  have e91 : lastIdx 91 (n ++ p) = -1 := lastIdx_nomem 91 _ (fun hm => (hc _ hm).2.1 rfl)
  have hok : hostPortOk sc (n ++ p) = true := by
    unfold hostPortOk
    cases p with
    | nil => rw [List.append_nil, fsub_none 58 n h58]; rfl
    | cons d r =>
      simp only [optPort, Bool.and_eq_true, beq_iff_eq] at hp
      obtain ⟨rfl, hd⟩ := hp
      have hr : (58 : UInt8) ∉ r := fun hm => absurd (List.all_eq_true.1 hd 58 hm) (by decide)
      rw [fsub_some 58 n r h58, lastIdx_mid 58 n r hr, if_neg (by simp)]
      simp [optPort, hd]
  unfold parseHost
  rw [e91, if_neg (by decide), if_neg (by decide), if_pos hok, uns_all _ (fun c hm => ⟨(hc c hm).1, (hc c hm).2.2.2.2.2.2.2.2⟩)]
/-- An authority that is valid. -/
theorem parseAuth_ok (sc au : Bytes) (h : auOk au = true) : (∃ us, parseAuth sc au = some (us, auRest au)) ∧ au.drop (lastIdx 64 au + 1).toNat = auRest au ∧ (HostB (auRest au) ∨ HostN (auRest au)) ∧ ∀ c ∈ au, c ≠ 47 ∧ c ≠ 63 ∧ c ≠ 35 ∧ isCtl c = false := by
  unfold auOk at h
  simp only [Bool.and_eq_true] at h
  obtain ⟨⟨h1, h2⟩, h3⟩ := h
  have hf := au_forms _ h2 h3
  have hch : ∀ c ∈ auRest au, c ≠ 64 ∧ c ≠ 47 ∧ c ≠ 63 ∧ c ≠ 35 ∧ isCtl c = false := by
    rcases hf with hf | hf
    · exact hostB_chars hf
    · intro c hc; have := hostN_chars hf c hc; exact ⟨this.2.2.2.1, this.2.2.2.2.1, this.2.2.2.2.2.1, this.2.2.2.2.2.2.1, this.2.2.2.2.2.2.2.1⟩
  have hph : parseHost sc (auRest au) = some (auRest au) := by
    rcases hf with hf | hf
    · exact parseHost_B sc _ hf
    · exact parseHost_N sc _ hf
  have h64 : (64 : UInt8) ∉ auRest au := fun hm => (hch _ hm).1 rfl
  by_cases hu : auU au = true
  · have e1 : auRest au = au.drop (auI au + 1) := by unfold auRest; rw [if_pos hu]
    have e2 : auUser au = au.take (auI au) := by unfold auUser; rw [if_pos hu]
    have hl : auI au < au.length := by simpa [auU] using hu
    have e : au = auUser au ++ 64 :: auRest au := by rw [e1, e2]; exact (index_split au 64).2 hl
    have hlu : (auUser au).length = auI au := by rw [e2, List.length_take]; omega
    have hcu : chars [58] true (auUser au) = true := by unfold auUok at h1; rw [hu] at h1; simpa using h1
    have hla : lastIdx 64 au = auI au := by
      conv => lhs; rw [e]
      rw [lastIdx_mid 64 _ _ h64, hlu]
    obtain ⟨x, hx⟩ := parseUser_ok _ hcu
    have e3 : au.drop (lastIdx 64 au + 1).toNat = auRest au := by rw [hla, e1]; congr 1
    refine ⟨⟨some x, ?_⟩, e3, hf, ?_⟩
    · unfold parseAuth
      rw [if_neg (by omega)]
      have e4 : au.drop ((lastIdx 64 au).toNat + 1) = auRest au := by rw [hla, e1]; rfl
      have e5 : au.take (lastIdx 64 au).toNat = auUser au := by rw [hla, e2]; rfl
      rw [e4, e5, hph, hx]
    · intro c hc
      rw [e] at hc
      rcases List.mem_append.1 hc with hc | hc
      · rcases chars_all [58] true _ _ (Nat.le_refl _) hcu c hc with h | ⟨rfl, _⟩
        · have : ∀ n : Fin 256, pcb [58] (UInt8.ofNat n.val) = true → (UInt8.ofNat n.val) ≠ 47 ∧ (UInt8.ofNat n.val) ≠ 63 ∧ (UInt8.ofNat n.val) ≠ 35 ∧ isCtl (UInt8.ofNat n.val) = false := by decide +kernel
          have h2 := this ⟨c.toNat, c.toNat_lt⟩
          have h3 : UInt8.ofNat c.toNat = c := by simp
          simp only [h3] at h2
          exact h2 h
        · decide
      · rcases List.mem_cons.1 hc with rfl | hc
        · decide
        · exact (hch c hc).2
  · have hu' : auU au = false := by simpa using hu
    have e1 : auRest au = au := by unfold auRest; rw [if_neg hu]
    rw [e1] at hf hch hph h64 ⊢
    have hla := lastIdx_nomem 64 au h64
    refine ⟨⟨none, ?_⟩, by rw [hla]; rfl, hf, fun c hc => (hch c hc).2⟩
    unfold parseAuth
    rw [hla, if_pos (by decide), hph]; rfl
end NU
/-
  Plain Lean: the law of ParseRequestURI: of valid references without a fragment it parses absolute paths and absolute URIs as Parse does, and no others.
-/
namespace NU
set_option linter.unusedVariables false
set_option linter.unusedSimpArgs false
theorem begins_two (l : Bytes) : begins l [47, 47] = true → l = 47 :: 47 :: l.drop 2 := by
  intro h
  obtain ⟨r, hr⟩ := List.isPrefixOf_iff_prefix.1 (show List.isPrefixOf [47, 47] l = true from h)
  rw [← hr]; rfl
theorem begins_one (l : Bytes) : begins l [47] = (l.head? == some 47) := by
  cases l with
  | nil => rfl
  | cons c r =>
    simp only [begins, List.isPrefixOf, Bool.and_true, List.head?_cons]
    rw [Bool.eq_iff_iff]; simp; exact eq_comm
theorem index_rest (t set : Bytes) : t.drop (index t set) = [] ∨ ∃ c r, t.drop (index t set) = c :: r ∧ mem set c = true := by
  by_cases hl : index t set < t.length
  · right
    refine ⟨t[index t set], _, List.drop_eq_getElem_cons hl, ?_⟩
    exact List.findIdx_getElem (p := fun c => mem set c) (xs := t) (w := hl)
  · left; exact List.drop_eq_nil_of_le (by omega)
/-- What a valid reference without a fragment is made of. -/
structure Made (s : Bytes) (sc : Bytes) (hs ha : Bool) (au pa rq : Bytes) (fq : Bool) : Prop where
  whole : sp1 s = (if ha then 47 :: 47 :: au else []) ++ pa ++ pQ fq rq
  scheme : hs = true → s = sc ++ 58 :: sp1 s ∧ schm sc = true
  noscheme : hs = false → s = sp1 s
  gs : gsc 0 s ≠ -2 ∧ gsS s = sc ∧ gsR s = sp1 s ∧ (hs = false → sc = [])
  pchars : chars [58, 64, 47] true pa = true
  qchars : chars [58, 64, 47, 63] true rq = true
  q : fq = true → rq = []
  auth : ha = true → auOk au = true ∧ (pa = [] ∨ ∃ r, pa = 47 :: r)
  noauth : ha = false → begins pa [47, 47] = false ∧ (hs = true ∨ index (pa.take (index pa [47])) [58] = index pa [47])
theorem valid_made (s : Bytes) (hv : valid s = true) (hf : spF s = false) : Made s (spScheme s) (spS s) (spA s) (spAuth s) (spPath s) (spQuery s) (spQ s && (spQuery s).isEmpty) := by
  have hv0 := hv
  unfold valid validR at hv
  simp only [Bool.and_eq_true] at hv
  obtain ⟨⟨⟨⟨h1, h2⟩, h3⟩, h4⟩, h5⟩ := hv
  have hno35 := spF_no s hf
  have e4 : sp4 s = [] := by
    have key : ∀ t set : Bytes, (sp4 s = t.drop (index t set)) → (∀ c, mem set c = true → c = 35) → sp4 s = [] := by
      intro t set e hs
      rcases index_rest t set with h | ⟨c, r, h, hc⟩
      · rw [e, h]
      · have := hs c hc
        subst this
        rw [h] at e
        unfold spF at hf
        rw [e] at hf
        simp [begins, List.isPrefixOf] at hf
    by_cases hq : spQ s = true
    · exact key (sp3 s) [35] (by unfold sp4; rw [if_pos hq]; rfl) (by intro c hc; simpa [mem] using hc)
    · have e : sp4 s = sp3 s := by unfold sp4; rw [if_neg hq]
      rcases index_rest (sp2 s) [63, 35] with h | ⟨c, r, h, hc⟩
      · rw [e]; exact h
      · have h : sp3 s = c :: r := h
        simp [mem] at hc
        rcases hc with rfl | rfl
        · exfalso; apply hq; unfold spQ; rw [h]; simp [begins, List.isPrefixOf]
        · unfold spF at hf; rw [e, h] at hf; simp [begins, List.isPrefixOf] at hf
  have e3 : sp3 s = pQ (spQ s && (spQuery s).isEmpty) (spQuery s) := by
    by_cases hq : spQ s = true
    · have e : sp4 s = (sp3 s).drop (spQI s) := by unfold sp4; rw [if_pos hq]
      rw [e4] at e
      have hb : begins (sp3 s) [63] = true := hq
      have eq : spQuery s = ((sp3 s).drop 1).take (spQI s - 1) := by unfold spQuery; rw [if_pos hq]
      cases h3' : sp3 s with
      | nil => rw [h3'] at hb; exact absurd hb (by decide)
      | cons c r =>
        have hc : c = 63 := by rw [h3'] at hb; simp [begins, List.isPrefixOf] at hb; exact hb.symm
        subst hc
        rw [h3'] at e eq
        have hl : r.length + 1 ≤ spQI s := by
          have := congrArg List.length e
          simp only [List.length_nil, List.length_drop, List.length_cons] at this; omega
        have : spQuery s = r := by
          rw [eq, List.drop_succ_cons, List.drop_zero, List.take_of_length_le (by omega)]
        rw [this, hq]
        unfold pQ
        cases r <;> rfl
    · have e : sp4 s = sp3 s := by unfold sp4; rw [if_neg hq]
      have eq : spQuery s = [] := by unfold spQuery; rw [if_neg hq]
      have hq' : spQ s = false := by simpa using hq
      rw [← e, e4, hq', eq]; rfl
  have e2 : sp2 s = spPath s ++ sp3 s := (List.take_append_drop _ _).symm
  have e1 : sp1 s = (if spA s then 47 :: 47 :: spAuth s else []) ++ sp2 s := by
    by_cases ha : spA s = true
    · have hb := begins_two _ ha
      rw [if_pos ha]
      have ea : spAuth s = ((sp1 s).drop 2).take (spAI s) := by unfold spAuth; rw [if_pos ha]
      have eb : sp2 s = ((sp1 s).drop 2).drop (spAI s) := by unfold sp2; rw [if_pos ha]
      rw [ea, eb, List.cons_append, List.cons_append, List.take_append_drop]
      exact hb
    · rw [if_neg ha, List.nil_append]; unfold sp2; rw [if_neg ha]
  have hsc : spS s = true → s = spScheme s ++ 58 :: sp1 s ∧ schm (spScheme s) = true := by
    intro h
    have h6 := h
    unfold spS at h6
    simp only [Bool.and_eq_true, decide_eq_true_eq, beq_iff_eq] at h6
    obtain ⟨⟨g1, g2⟩, g3⟩ := h6
    refine ⟨?_, ?_⟩
    · have e5 : spScheme s = s.take (spI s) := by unfold spScheme; rw [if_pos h]
      have e6 : sp1 s = s.drop (spI s + 1) := by unfold sp1; rw [if_pos h]
      rw [e5, e6]
      conv => lhs; rw [← List.take_append_drop (spI s) s]
      congr 1
      rw [List.drop_eq_getElem_cons g2] at g3 ⊢
      rw [List.head?_cons] at g3
      rw [Option.some.inj g3]
    · rw [h] at h1; simpa using h1
  have hns : spS s = false → s = sp1 s := fun h => by unfold sp1; rw [h]; rfl
  refine ⟨by rw [e1, e2, e3, List.append_assoc], hsc, hns, ?_, h2, h3, fun h => by simp at h; exact h.2, ?_, ?_⟩
  · by_cases h : spS s = true
    · have hg := scheme_yes s hv0 h
      have e5 : spScheme s = s.take (spI s) := by unfold spScheme; rw [if_pos h]
      have e6 : sp1 s = s.drop (spI s + 1) := by unfold sp1; rw [if_pos h]
      refine ⟨by omega, ?_, ?_, fun h' => by rw [h] at h'; cases h'⟩
      · unfold gsS; rw [if_pos (by omega), hg, e5]; rfl
      · unfold gsR; rw [if_pos (by omega), hg, e6]; rfl
    · have h' : spS s = false := by simpa using h
      have hg := scheme_no s hv0 h'
      have e5 : spScheme s = [] := by unfold spScheme; rw [if_neg h]
      refine ⟨by omega, ?_, ?_, fun _ => e5⟩
      · unfold gsS; rw [if_neg (by omega), e5]
      · unfold gsR; rw [if_neg (by omega)]; exact hns h'
  · intro ha
    rw [if_pos ha, Bool.and_eq_true] at h5
    refine ⟨h5.1, ?_⟩
    have := h5.2
    cases hp : spPath s with
    | nil => exact .inl rfl
    | cons c r => rw [hp] at this; simp at this; subst this; exact .inr ⟨r, rfl⟩
  · intro ha
    rw [if_neg (by simp [ha]), Bool.and_eq_true] at h5
    refine ⟨by simpa using h5.1, ?_⟩
    have := h5.2
    simp only [Bool.or_eq_true, decide_eq_true_eq] at this
    exact this
theorem chars_ok {more s : Bytes} (h : chars more true s = true) (hm : ∀ c, mem more c = true → mem [58, 64, 47, 63] c = true) : ∀ c ∈ s, isCtl c = false ∧ c ≠ 35 := by
  intro c hc
  have hp : pcb [58, 64, 47, 63, 37] c = true := by
    rcases chars_all more true _ _ (Nat.le_refl _) h c hc with h' | ⟨rfl, _⟩
    · unfold pcb at h' ⊢
      simp only [Bool.or_eq_true] at h' ⊢
      rcases h' with h' | h'
      · exact .inl h'
      · right
        have := hm c h'
        simp [mem] at this ⊢
        grind
    · decide
  have : ∀ n : Fin 256, pcb [58, 64, 47, 63, 37] (UInt8.ofNat n.val) = true → isCtl (UInt8.ofNat n.val) = false ∧ (UInt8.ofNat n.val) ≠ 35 := by decide +kernel
  have h2 := this ⟨c.toNat, c.toNat_lt⟩
  have h3 : UInt8.ofNat c.toNat = c := by simp
  simp only [h3] at h2
  exact h2 hp
theorem chars_no63 {s : Bytes} (h : chars [58, 64, 47] true s = true) : (63 : UInt8) ∉ s := by
  intro hm
  rcases chars_all _ true _ _ (Nat.le_refl _) h 63 hm with h' | h'
  · exact absurd h' (by decide)
  · exact absurd h'.1 (by decide)
/-- The relation of the two parsings. -/
theorem mk2 {a b : Option PU} {c : Prop} [Decidable c] {u : PU} (h1 : a = some u) (h2 : b = if c then none else some u) : ∃ u, a = some u ∧ b = if c then none else some u := ⟨u, h1, h2⟩
theorem request_law (s : Bytes) (hv : valid s = true) (hf : spF s = false) (hau : spA s = true → spS s = true) (hs : s ≠ [42]) :
    parse s = parse0 s false ∧ cutB [35] s = s ∧ (∃ u, parse0 s false = some u ∧ parse0 s true = if spS s = false ∧ (spPath s).head? ≠ some 47 then none else some u) ∧
    (spA s = true → authOf (pRest (gsR s)) = spAuth s ∧ auOk (spAuth s) = true) ∧ (spA s = false → begins (pRest (gsR s)) [47, 47] = false) := by
  have M := valid_made s hv hf
  have hno35 := spF_no s hf
  have hcut := cutB_none 35 s hno35
  generalize hsc : spScheme s = sc at M
  generalize hS : spS s = bs at M hau
  generalize hA : spA s = ba at M hau
  generalize hAu : spAuth s = au at M
  generalize hPa : spPath s = pa at M
  generalize hQu : spQuery s = rq at M
  generalize hFq : (spQ s && rq.isEmpty) = fq at M
  clear hsc hS hA hAu hPa hQu hFq
  obtain ⟨whole, scheme, noscheme, gs, pchars, qchars, q, auth, noauth⟩ := M
  obtain ⟨gs1, gs2, gs3, gs4⟩ := gs
  have hpok := chars_ok pchars (by intro c hc; simp [mem] at hc ⊢; grind)
  have hqok := chars_ok qchars (fun c hc => hc)
  have haok : ba = true → ∀ c ∈ au, c ≠ 47 ∧ c ≠ 63 ∧ c ≠ 35 ∧ isCtl c = false := fun h => (parseAuth_ok [] au (auth h).1).2.2.2
  generalize hH : ((if ba then 47 :: 47 :: au else []) ++ pa : Bytes) = H at whole
  have h63 : (63 : UInt8) ∉ H := by
    rw [← hH]
    intro hm
    rcases List.mem_append.1 hm with hm | hm
    · cases ba
      · simp at hm
      · simp only [if_true, List.mem_cons] at hm
        rcases hm with hm | hm | hm
        · exact absurd hm (by decide)
        · exact absurd hm (by decide)
        · exact (haok rfl _ hm).2.1 rfl
    · exact chars_no63 pchars hm
  have hpq := pq_plain (h := H) (rq := rq) (fq := fq) h63 ⟨fun d hd => ⟨(hqok d hd).2, (hqok d hd).1⟩, q⟩
  have hR : gsR s = H ++ pQ fq rq := by rw [gs3, whole]
  have hctl1 : ∀ c ∈ sp1 s, isCtl c = false := by
    rw [whole, ← hH]
    intro c hc
    simp only [List.mem_append] at hc
    rcases hc with (hc | hc) | hc
    · cases ba
      · simp at hc
      · simp only [if_true, List.mem_cons] at hc
        rcases hc with rfl | rfl | hc
        · decide
        · decide
        · exact (haok rfl c hc).2.2.2
    · exact (hpok c hc).1
    · unfold pQ at hc
      split at hc
      · rcases List.mem_cons.1 hc with rfl | hc
        · decide
        · exact (hqok c hc).1
      · simp at hc
  have hctl : ctl s = false := by
    unfold ctl
    rw [List.any_eq_false]
    intro c hc
    cases bs
    · rw [noscheme rfl] at hc; simp [hctl1 c hc]
    · obtain ⟨e, hsch⟩ := scheme rfl
      rw [e] at hc
      rcases List.mem_append.1 hc with hc | hc
      · have : sch c = true := by
          cases sc with
          | nil => simp at hc
          | cons a r =>
            rw [schm_cons, Bool.and_eq_true] at hsch
            rcases List.mem_cons.1 hc with rfl | hc
            · simp [sch, hsch.1]
            · exact List.all_eq_true.1 hsch.2 c hc
        have h1 : ∀ n : Fin 256, sch (UInt8.ofNat n.val) = true → isCtl (UInt8.ofNat n.val) = false := by decide +kernel
        have h2 := h1 ⟨c.toNat, c.toNat_lt⟩
        have h3 : UInt8.ofNat c.toNat = c := by simp
        simp only [h3] at h2
        simp [h2 this]
      · rcases List.mem_cons.1 hc with rfl | hc
        · decide
        · simp [hctl1 c hc]
  have hne : bs = true → lower sc ≠ [] := by
    intro h e
    obtain ⟨_, hsch⟩ := scheme h
    have : sc = [] := by unfold lower at e; simpa using e
    subst this
    exact absurd hsch (by decide)
  obtain ⟨px, hpx⟩ := chars_dec pchars
  have hset : ∀ u : PU, setPath u pa = some { u with path := px, rawpath := if pa = esc 1 px then [] else pa } := by
    intro u; unfold setPath; rw [hpx]; rfl
  have hparse : parse s = parse0 s false := by
    unfold parse
    rw [hcut.1, hcut.2]
    cases parse0 s false <;> simp
  have hcutH : ba = true → authOf H = au ∧ restOf H = pa := by
    intro hb
    subst hb
    have h47 : (47 : UInt8) ∉ au := fun hm => (haok rfl _ hm).1 rfl
    have hd : H.drop 2 = au ++ pa := by rw [← hH]; rfl
    unfold authOf restOf
    rw [hd]
    rcases (auth rfl).2 with rfl | ⟨r, rfl⟩
    · rw [List.append_nil]
      exact ⟨(cutB_none 47 au h47).1, by rw [if_pos (by rw [fsub_none 47 au h47]; decide)]⟩
    · refine ⟨(cutB_some 47 au r h47).1, ?_⟩
      rw [fsub_some 47 au r h47, if_neg (by omega), Int.toNat_natCast, List.drop_left]
  refine ⟨hparse, hcut.1, ?_, ?_, ?_⟩
  · -- both parsings
    have hp0 : ∀ via, ¬ (s = [] ∧ via = true) → parse0 s via = (if begins H [47] = false then
        if lower sc ≠ [] then some { scheme := lower sc, rawq := rq, fq := fq, opq := H }
        else if via then none
        else if 0 ≤ fsub [58] (cutB [47] H) then none
        else parse1 { scheme := lower sc, rawq := rq, fq := fq } H via
      else parse1 { scheme := lower sc, rawq := rq, fq := fq } H via) := by
      intro via hvia
      unfold parse0
      rw [if_neg (by simp [hctl]), if_neg hvia, if_neg hs, if_neg gs1, gs2, hR]
      simp only [hpq.1, hpq.2.1, hpq.2.2]
    cases bs
    · -- no scheme: no authority
      have hba : ba = false := by
        cases ba
        · rfl
        · exact absurd (hau rfl) (by decide)
      subst hba
      have hHp : H = pa := by rw [← hH]; rfl
      have hsc0 := gs4 rfl
      subst hsc0
      obtain ⟨hnn, hcol⟩ := noauth rfl
      have hcol := hcol.resolve_left (by decide)
      rw [hHp] at hp0
      have hlow : lower [] = [] := rfl
      rw [hlow] at hp0
      have h1 : ∀ via, parse1 { scheme := [], rawq := rq, fq := fq } pa via = some { scheme := [], rawq := rq, fq := fq, path := px, rawpath := if pa = esc 1 px then [] else pa } := by
        intro via
        unfold parse1
        rw [hnn, Bool.and_false, if_neg (by decide), hset]
        rfl
      by_cases hb : begins pa [47] = false
      · -- a relative path
        have hh : (pa.head? == some 47) = false := by rw [← begins_one]; exact hb
        have hh' : pa.head? ≠ some 47 := by simpa using hh
        refine ⟨{ scheme := [], rawq := rq, fq := fq, path := px, rawpath := if pa = esc 1 px then [] else pa }, ?_, ?_⟩
        · rw [hp0 false (by simp), if_pos hb, if_neg (by simp), if_neg (by simp), if_neg, h1]
          have hle := index_le pa [47]
          have hcb : cutB [47] pa = pa.take (index pa [47]) := by
            by_cases hm : (47 : UInt8) ∈ pa
            · obtain ⟨x, y, rfl, hx⟩ := first_split 47 pa hm
              have hi : index (x ++ 47 :: y) [47] = x.length := index_pre x y [47] 47 (by
                rw [List.all_eq_true]; intro c hc
                have : c ≠ 47 := fun e => hx (e ▸ hc)
                simp [mem, this]) rfl
              rw [(cutB_some 47 x y hx).1, hi, List.take_left]
            · have hi : index pa [47] = pa.length := index_none [47] pa (fun c hc => by
                have : c ≠ 47 := fun e => hm (e ▸ hc)
                simp [mem, this])
              rw [(cutB_none 47 pa hm).1, hi, List.take_length]
          rw [hcb]
          have hn : (58 : UInt8) ∉ pa.take (index pa [47]) := by
            intro hm
            have h5 := (index_split (pa.take (index pa [47])) 58).1
            rw [hcol] at h5
            rw [List.take_of_length_le (by rw [List.length_take]; omega)] at h5
            exact h5 58 hm rfl
          rw [fsub_none 58 _ hn]; decide
        · rw [if_pos ⟨rfl, hh'⟩]
          by_cases hs0 : s = []
          · unfold parse0
            rw [if_neg (by simp [hctl]), if_pos ⟨hs0, rfl⟩]
          · rw [hp0 true (by simp [hs0]), if_pos hb, if_neg (by simp), if_pos rfl]
      · have hb' : begins pa [47] = true := by simpa using hb
        have hh' : pa.head? = some 47 := by have := begins_one pa; rw [hb'] at this; simpa using this.symm
        have hs0 : s ≠ [] := by
          intro e
          have h9 := (noscheme rfl).trans whole
          rw [hHp, e] at h9
          have h9 := congrArg List.length h9
          cases pa with
          | nil => cases hh'
          | cons c r => simp at h9
        refine mk2 (u := { scheme := [], rawq := rq, fq := fq, path := px, rawpath := if pa = esc 1 px then [] else pa }) ?_ ?_
        · rw [hp0 false (by simp), if_neg hb, h1]
        · rw [if_neg (by simp [hh']), hp0 true (by simp [hs0]), if_neg hb, h1]
    · -- a scheme
      have hls := hne rfl
      have hs0 : s ≠ [] := by
        intro e
        have := (scheme rfl).1
        rw [e] at this
        have := congrArg List.length this
        simp at this
      have hlsE : (lower sc).isEmpty = false := by simpa using hls
      cases ba
      · have hHp : H = pa := by rw [← hH]; rfl
        obtain ⟨hnn, _⟩ := noauth rfl
        rw [hHp] at hp0
        by_cases hb : begins pa [47] = false
        · refine mk2 (u := { scheme := lower sc, rawq := rq, fq := fq, opq := pa }) ?_ ?_
          · rw [hp0 false (by simp), if_pos hb, if_pos hls]
          · rw [if_neg (by simp), hp0 true (by simp [hs0]), if_pos hb, if_pos hls]
        · have h1 : ∀ via, parse1 { scheme := lower sc, rawq := rq, fq := fq } pa via = some { scheme := lower sc, rawq := rq, fq := fq, oh := !(lower sc).isEmpty && begins pa [47], path := px, rawpath := if pa = esc 1 px then [] else pa } := by
            intro via
            unfold parse1
            rw [hnn, Bool.and_false, if_neg (by decide), hset]
          refine mk2 (u := { scheme := lower sc, rawq := rq, fq := fq, oh := !(lower sc).isEmpty && begins pa [47], path := px, rawpath := if pa = esc 1 px then [] else pa }) ?_ ?_
          · rw [hp0 false (by simp), if_neg hb, h1]
          · rw [if_neg (by simp), hp0 true (by simp [hs0]), if_neg hb, h1]
      · obtain ⟨hok, hpa⟩ := auth rfl
        obtain ⟨⟨us, hus⟩, _⟩ := parseAuth_ok (lower sc) au hok
        have hb2 : begins H [47, 47] = true := by rw [← hH]; simp [begins, List.isPrefixOf]
        have hb1 : ¬ begins H [47] = false := by rw [← hH]; simp [begins, List.isPrefixOf]
        have h1 : ∀ via, parse1 { scheme := lower sc, rawq := rq, fq := fq } H via = some { scheme := lower sc, rawq := rq, fq := fq, user := us, host := auRest au, path := px, rawpath := if pa = esc 1 px then [] else pa } := by
          intro via
          unfold parse1
          rw [hb2, if_pos (by simp [hls])]
          simp only [(hcutH rfl).1, (hcutH rfl).2, hus]
          rw [hset]
        refine mk2 (u := { scheme := lower sc, rawq := rq, fq := fq, user := us, host := auRest au, path := px, rawpath := if pa = esc 1 px then [] else pa }) ?_ ?_
        · rw [hp0 false (by simp), if_neg hb1, h1]
        · rw [if_neg (by simp), hp0 true (by simp [hs0]), if_neg hb1, h1]
  · intro hb
    rw [hR, hpq.2.1]
    exact ⟨(hcutH hb).1, (auth hb).1⟩
  · intro hb
    rw [hR, hpq.2.1, ← hH, hb]
    exact (noauth hb).1
end NU
