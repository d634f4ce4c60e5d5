/-
  Plain Lean: control characters ahead of the fragment; percent signs in a path or a fragment.
-/
import Derived.Test.YtibcegbacnjmfaaDoorP14
namespace NU
set_option linter.unusedVariables false
set_option linter.unusedSimpArgs false
theorem lastIdx_nomem (c : UInt8) (s : Bytes) (h : c ∉ s) : lastIdx c s = -1 := by
  induction s with
  | nil => rfl
  | cons d r ih =>
    simp at h
    have := ih h.2
    unfold lastIdx
    rw [this, if_neg (by omega), if_neg (by simpa using fun e => h.1 e.symm)]
theorem lastIdx_mid (c : UInt8) (a n : Bytes) (h : c ∉ n) : lastIdx c (a ++ c :: n) = a.length := by
  induction a with
  | nil =>
    have := lastIdx_nomem c n h
    show lastIdx c (c :: n) = _
    unfold lastIdx
    rw [this, if_neg (by omega)]; simp
  | cons d r ih =>
    rw [List.cons_append]; unfold lastIdx; rw [ih, if_pos (by omega)]; simp
theorem index_mem (s set : Bytes) (c : UInt8) (hc : mem set c = true) : c ∉ s.take (index s set) := by
  intro h
  have := List.all_eq_true.1 (take_index s set) c h
  rw [hc] at this; cases this
/-- No fragment: no number sign. -/
theorem spF_no (s : Bytes) (h : spF s = false) : (35 : UInt8) ∉ s := by
  have h4 : (35 : UInt8) ∉ sp4 s := by
    have h3 : ∀ t : Bytes, (t = [] ∨ t.head? = some 35 ∨ 35 ∉ t) → begins t [35] = false → (35 : UInt8) ∉ t := by
      intro t ht hb
      rcases ht with rfl | ht | ht
      · simp
      · cases t with
        | nil => simp
        | cons a r => simp at ht; subst ht; simp [begins, List.isPrefixOf] at hb
      · exact ht
    have hdrop : ∀ (t set : Bytes), mem set 35 = true → t.drop (index t set) = [] ∨ ∃ c r, t.drop (index t set) = c :: r ∧ mem set c = true := by
      intro t set hm
      by_cases hl : index t set < t.length
      · right
        refine ⟨t[index t set], _, List.drop_eq_getElem_cons hl, ?_⟩
        have := List.findIdx_getElem (p := fun c => mem set c) (xs := t) (w := hl)
        exact this
      · left; exact List.drop_eq_nil_of_le (by omega)
    refine h3 (sp4 s) ?_ h
    unfold sp4
    split
    · rcases hdrop (sp3 s) [35] rfl with he | ⟨c, r, he, hc⟩
      · left; exact he
      · right; left
        show ((sp3 s).drop (index (sp3 s) [35])).head? = _
        rw [he]; simp [mem] at hc; subst hc; rfl
    · rename_i hq
      have hq : spQ s = false := by simpa using hq
      rcases hdrop (sp2 s) [63, 35] rfl with he | ⟨c, r, he, hc⟩
      · left; exact he
      · right; left
        have he : sp3 s = c :: r := he
        rw [he]
        simp [mem] at hc
        rcases hc with rfl | rfl
        · unfold spQ at hq; rw [he] at hq; simp [begins, List.isPrefixOf] at hq
        · rfl
  have h3 : (35 : UInt8) ∉ sp3 s := by
    by_cases hq : spQ s = true
    · have e : sp4 s = (sp3 s).drop (index (sp3 s) [35]) := by unfold sp4; rw [if_pos hq]; rfl
      rw [← List.take_append_drop (index (sp3 s) [35]) (sp3 s), List.mem_append]
      rintro (hh | hh)
      · exact index_mem _ _ _ rfl hh
      · rw [← e] at hh; exact h4 hh
    · have e : sp4 s = sp3 s := by unfold sp4; rw [if_neg hq]
      rwa [e] at h4
  have h2 : (35 : UInt8) ∉ sp2 s := by
    rw [← List.take_append_drop (index (sp2 s) [63, 35]) (sp2 s), List.mem_append]
    rintro (hh | hh)
    · exact index_mem _ _ _ rfl hh
    · exact h3 hh
  have h1 : (35 : UInt8) ∉ sp1 s := by
    by_cases ha : spA s = true
    · have e : sp2 s = ((sp1 s).drop 2).drop (index ((sp1 s).drop 2) [47, 63, 35]) := by unfold sp2; rw [if_pos ha]; rfl
      have hd : (35 : UInt8) ∉ (sp1 s).drop 2 := by
        rw [← List.take_append_drop (index ((sp1 s).drop 2) [47, 63, 35]) ((sp1 s).drop 2), List.mem_append]
        rintro (hh | hh)
        · exact index_mem _ _ _ rfl hh
        · rw [← e] at hh; exact h2 hh
      have hb : sp1 s = [47, 47] ++ (sp1 s).drop 2 := by
        have : begins (sp1 s) [47, 47] = true := ha
        obtain ⟨r, hr⟩ := List.isPrefixOf_iff_prefix.1 this
        rw [← hr]; simp
      rw [hb]; simp only [List.mem_append]
      rintro (hh | hh)
      · revert hh; decide
      · exact hd hh
    · have e : sp2 s = sp1 s := by unfold sp2; rw [if_neg ha]
      rwa [e] at h2
  by_cases hs : spS s = true
  · have e : sp1 s = s.drop (index s [58, 47, 63, 35] + 1) := by unfold sp1; rw [if_pos hs]; rfl
    rw [← List.take_append_drop (index s [58, 47, 63, 35]) s, List.mem_append]
    rintro (hh | hh)
    · exact index_mem _ _ _ rfl hh
    · have hk := hs
      unfold spS at hk
      simp only [Bool.and_eq_true, decide_eq_true_eq, beq_iff_eq] at hk
      obtain ⟨⟨_, hl⟩, hh58⟩ := hk
      unfold spI at hl hh58
      rw [List.drop_eq_getElem_cons hl] at hh hh58
      rw [← e] at hh
      rcases List.mem_cons.1 hh with hh | hh
      · rw [List.head?_cons] at hh58
        rw [← hh] at hh58; cases hh58
      · exact h1 hh
  · have e : sp1 s = s := by unfold sp1; rw [if_neg hs]
    rwa [e] at h1
theorem cutB_none (c : UInt8) (s : Bytes) (h : c ∉ s) : cutB [c] s = s ∧ cutA [c] s = [] := by
  have : fsub [c] s = -1 := by
    induction s with
    | nil => rfl
    | cons d r ih =>
      simp at h
      rw [fsub_one_cons, ih h.2, if_neg (by simpa using fun e => h.1 e.symm)]; rfl
  unfold cutB cutA; rw [this]; exact ⟨rfl, rfl⟩
theorem cutB_some (c : UInt8) (a b : Bytes) (h : c ∉ a) : cutB [c] (a ++ c :: b) = a ∧ cutA [c] (a ++ c :: b) = b := by
  have : fsub [c] (a ++ c :: b) = a.length := by
    induction a with
    | nil => rw [List.nil_append, fsub_one_cons, if_pos (by simp)]; rfl
    | cons d r ih =>
      simp at h
      rw [List.cons_append, fsub_one_cons, ih h.2, if_neg (by simpa using fun e => h.1 e.symm), if_neg (by omega)]; simp
  unfold cutB cutA; rw [this, if_neg (by omega), if_neg (by omega), Int.toNat_natCast]
  refine ⟨by simp, ?_⟩
  rw [show a.length + [c].length = a.length + 1 from rfl, List.drop_append]; simp
theorem first_split (c : UInt8) (b : Bytes) (h : c ∈ b) : ∃ x y, b = x ++ c :: y ∧ c ∉ x := by
  induction b with
  | nil => cases h
  | cons d r ih =>
    by_cases hd : d = c
    · subst hd; exact ⟨[], r, rfl, by simp⟩
    · have hr : c ∈ r := by
        rcases List.mem_cons.1 h with e | e
        · exact absurd e.symm hd
        · exact e
      obtain ⟨x, y, e, hx⟩ := ih hr
      exact ⟨d :: x, y, by rw [e]; rfl, by simp; exact ⟨fun e => hd e.symm, hx⟩⟩
theorem cutB_pre (c : UInt8) (a b : Bytes) (h : c ∉ a) : cutB [c] (a ++ b) = a ++ cutB [c] b := by
  by_cases hb : c ∈ b
  · obtain ⟨x, y, rfl, hx⟩ := first_split c b hb
    have hax : c ∉ a ++ x := by simp [h, hx]
    rw [← List.append_assoc, (cutB_some c (a ++ x) y hax).1, (cutB_some c x y hx).1]
  · rw [(cutB_none c b hb).1, (cutB_none c (a ++ b) (by simp [h, hb])).1]
/-- A control character ahead of the fragment is refused. -/
theorem parse_control (a b : Bytes) (c : UInt8) (ha : spF a = false) (hc : isCtl c = true) : ctl (cutB [35] (a ++ c :: b)) = true ∧ parse (a ++ c :: b) = none := by
  have h35 : c ≠ 35 := by rintro rfl; exact absurd hc (by decide)
  have e : cutB [35] (a ++ c :: b) = a ++ c :: cutB [35] b := by
    have := cutB_pre 35 (a ++ [c]) b (by simp [spF_no a ha, Ne.symm h35])
    simpa using this
  have hct : ctl (cutB [35] (a ++ c :: b)) = true := by
    rw [e]; unfold ctl; simp [hc]
  refine ⟨hct, ?_⟩
  rw [parse, parse0, if_pos hct]
theorem ctl_mask (c : UInt8) : isCtl (if 31 < (c &&& 63).toNat then 127 else c &&& 63) = true := by
  have := all_u8 (fun c => isCtl (if 31 < (c &&& 63).toNat then 127 else c &&& 63)) (by decide +kernel) c
  exact this
/-- Which bytes an element in escaped form has. -/
def eok (c : UInt8) : Bool := unreserved c || c == 47 || c == 37
theorem elem1_ok (c : UInt8) : (elem1 c).all eok = true := by
  have := all_u8 (fun c => (elem1 c).all eok) (by decide +kernel) c
  exact this
theorem elem_ok (s : Bytes) : ∀ c ∈ elem s, eok c = true := by
  induction s with
  | nil => intro c hc; cases hc
  | cons d r ih =>
    intro c hc
    rw [elem] at hc
    rcases List.mem_append.1 hc with h | h
    · exact List.all_eq_true.1 (elem1_ok d) c h
    · exact ih c h
theorem eok_not (c : UInt8) (h : eok c = true) : c ≠ 35 ∧ c ≠ 63 ∧ isCtl c = false := by
  have := all_u8 (fun c => !eok c || (c != 35 && c != 63 && !isCtl c)) (by decide +kernel) c
  simpa [h, and_assoc] using this
/-- An element, a percent sign, an element. -/
def bp (a b : Bytes) : Bytes := elem a ++ 37 :: elem b
theorem bp_ok (a b : Bytes) : ∀ c ∈ bp a b, eok c = true := by
  intro c hc
  unfold bp at hc
  rcases List.mem_append.1 hc with h | h
  · exact elem_ok a c h
  · rcases List.mem_cons.1 h with rfl | h
    · decide
    · exact elem_ok b c h
theorem dec_pre (p t : Bytes) (h : ∀ c ∈ p, c ≠ 37) : dec false (p ++ t) = (dec false t).map (p ++ ·) := by
  induction p with
  | nil => simp
  | cons c r ih =>
    rw [List.cons_append, dec_other _ _ _ (h c (by simp)), ih (fun d hd => h d (by simp [hd])), Option.map_map]; rfl
theorem cnt_zero (c : UInt8) (s : Bytes) (h : c ∉ s) : cnt c s = 0 := by
  induction s with
  | nil => rfl
  | cons d r ih =>
    simp at h
    rw [cnt_cons, ih h.2, if_neg (by simpa using fun e => h.1 e.symm)]
def httpA : Bytes := [104, 116, 116, 112, 58, 47, 47, 97, 47]
theorem parse0_elem (t : Bytes) (h : ∀ c ∈ t, eok c = true) :
    parse0 (httpA ++ t) false = (dec false t).map (fun x => { scheme := [104, 116, 116, 112], host := [97], path := 47 :: x, rawpath := if 47 :: t = esc 1 (47 :: x) then [] else 47 :: t }) := by
  have hct : ctl (httpA ++ t) = false := by
    unfold ctl
    rw [List.any_append, show httpA.any isCtl = false from rfl, Bool.false_or, List.any_eq_false]
    intro c hc
    simp [(eok_not c (h c hc)).2.2]
  have hg : gsc 0 (httpA ++ t) = 4 := gsc_zero 104 [116, 116, 112] (47 :: 47 :: 97 :: 47 :: t) (by decide) (by decide)
  have hS : gsS (httpA ++ t) = [104, 116, 116, 112] := by unfold gsS; rw [hg]; rfl
  have hR : gsR (httpA ++ t) = 47 :: 47 :: 97 :: 47 :: t := by unfold gsR; rw [hg]; rfl
  have h63 : (63 : UInt8) ∉ (47 :: 47 :: 97 :: 47 :: t : Bytes) := by
    simp
    intro hc; exact (eok_not _ (h _ hc)).2.1 rfl
  have hpq : pq (47 :: 47 :: 97 :: 47 :: t) = false := by unfold pq; rw [cnt_zero 63 _ h63]; simp
  have hpr : pRest (47 :: 47 :: 97 :: 47 :: t) = 47 :: 47 :: 97 :: 47 :: t := by unfold pRest; rw [hpq, (cutB_none 63 _ h63).1]; rfl
  have hpy : pQuery (47 :: 47 :: 97 :: 47 :: t) = [] := by unfold pQuery; rw [hpq, (cutB_none 63 _ h63).2]; rfl
  have hfs : fsub [47] (97 :: 47 :: t) = 1 := by rw [fsub_one_cons, fsub_one_cons]; rfl
  have hau : authOf (47 :: 47 :: 97 :: 47 :: t) = [97] := by
    show cutB [47] (97 :: 47 :: t) = _
    unfold cutB; rw [hfs]; rfl
  have hre : restOf (47 :: 47 :: 97 :: 47 :: t) = 47 :: t := by
    show (if fsub [47] (97 :: 47 :: t) < 0 then [] else (97 :: 47 :: t : Bytes).drop (fsub [47] (97 :: 47 :: t)).toNat) = _
    rw [hfs]; rfl
  have hpa : parseAuth [104, 116, 116, 112] [97] = some (none, [97]) := by decide +kernel
  unfold parse0
  rw [hct, hg, hS, hR, hpq, hpr, hpy]
  rw [if_neg (by decide), if_neg (by simp [httpA]), if_neg (by simp [httpA]), if_neg (by decide)]
  have hl : lower [104, 116, 116, 112] = [104, 116, 116, 112] := by decide
  simp only [hl]
  rw [if_neg (by simp [begins, List.isPrefixOf])]
  unfold parse1
  rw [if_pos (by simp [begins, List.isPrefixOf])]
  simp only [hau, hre, hpa]
  unfold setPath
  rw [dec_other _ _ _ (by decide), Option.map_map]
  cases dec false t <;> rfl
theorem bad_path (a b : Bytes) : parse (httpA ++ bp a b) = (dec false (bp a b)).map (fun x => { scheme := [104, 116, 116, 112], host := [97], path := 47 :: x, rawpath := if 47 :: bp a b = esc 1 (47 :: x) then [] else 47 :: bp a b }) ∧
    (dec false (httpA ++ bp a b)).isSome = (dec false (bp a b)).isSome := by
  have h35 : (35 : UInt8) ∉ httpA ++ bp a b := by
    rw [List.mem_append]
    rintro (h | h)
    · revert h; decide
    · exact (eok_not _ (bp_ok a b _ h)).1 rfl
  constructor
  · unfold parse
    rw [(cutB_none 35 _ h35).1, (cutB_none 35 _ h35).2, parse0_elem _ (bp_ok a b)]
    cases dec false (bp a b) <;> rfl
  · rw [dec_pre _ _ (by decide)]; cases dec false (bp a b) <;> rfl
theorem bad_frag (a b : Bytes) : parse (httpA ++ 35 :: bp a b) = (dec false (bp a b)).map (fun x => { scheme := [104, 116, 116, 112], host := [97], path := [47], frag := x, rawfrag := if bp a b = esc 64 x then [] else bp a b }) ∧
    (dec false (httpA ++ 35 :: bp a b)).isSome = (dec false (bp a b)).isSome := by
  have hcut := cutB_some 35 httpA (bp a b) (by decide)
  constructor
  · unfold parse
    rw [hcut.1, hcut.2]
    have h0 : parse0 httpA false = some { scheme := [104, 116, 116, 112], host := [97], path := [47] } := by
      have := parse0_elem [] (by simp)
      rw [List.append_nil] at this
      rw [this]
      show some _ = some _
      congr 1
    rw [h0]
    simp only
    rw [if_neg (by unfold bp; simp)]
    unfold setFrag
    rfl
  · have := dec_pre (httpA ++ [35]) (bp a b) (by decide)
    rw [List.append_assoc] at this
    rw [show httpA ++ 35 :: bp a b = httpA ++ ([35] ++ bp a b) from rfl, this]; cases dec false (bp a b) <;> rfl
/-- Sizes of what is parsed. -/
theorem setPath_sz {u v : PU} {p : Bytes} (h : setPath u p = some v) : v.path.length ≤ p.length ∧ v.rawpath.length ≤ p.length ∧ v.frag = u.frag ∧ v.rawfrag = u.rawfrag ∧ v.user = u.user := by
  unfold setPath at h
  obtain ⟨x, hx, rfl⟩ := Option.map_eq_some_iff.1 h
  have := dec_len false _ p x (Nat.le_refl _) hx
  refine ⟨this, ?_, rfl, rfl, rfl⟩
  show (if p = esc 1 x then [] else p : Bytes).length ≤ _
  split <;> simp
theorem restOf_len (r : Bytes) : (restOf r).length ≤ r.length := by
  unfold restOf; split
  · simp
  · simp only [List.length_drop]; omega
theorem parse1_sz {u v : PU} {r : Bytes} {via : Bool} (h : parse1 u r via = some v) (hf : u.frag = []) (hr : u.rawfrag = []) : v.path.length ≤ r.length ∧ v.rawpath.length ≤ r.length ∧ v.frag = [] ∧ v.rawfrag = [] := by
  unfold parse1 at h
  split at h
  · cases hp : parseAuth u.scheme (authOf r) with
    | none => rw [hp] at h; cases h
    | some x =>
      rw [hp] at h
      have := setPath_sz h
      have hl := restOf_len r
      exact ⟨by omega, by omega, this.2.2.1.trans hf, this.2.2.2.1.trans hr⟩
  · have := setPath_sz h
    exact ⟨this.1, this.2.1, this.2.2.1.trans hf, this.2.2.2.1.trans hr⟩
theorem parse0_sz {raw : Bytes} {via : Bool} {v : PU} (h : parse0 raw via = some v) : v.path.length ≤ raw.length ∧ v.rawpath.length ≤ raw.length ∧ v.frag = [] ∧ v.rawfrag = [] := by
  have hl : (pRest (gsR raw)).length ≤ raw.length := Nat.le_trans (pRest_len _) (gsR_len _)
  unfold parse0 at h
  split at h
  · cases h
  split at h
  · cases h
  split at h
  · rename_i he
    cases h; rw [he]; simp
  split at h
  · cases h
  simp only at h
  split at h
  · split at h
    · cases h; simp
    · split at h
      · cases h
      · split at h
        · cases h
        · have := parse1_sz h rfl rfl; exact ⟨by omega, by omega, this.2.2⟩
  · have := parse1_sz h rfl rfl; exact ⟨by omega, by omega, this.2.2⟩
theorem parse_sz {raw : Bytes} {v : PU} (h : parse raw = some v) : v.path.length ≤ raw.length ∧ v.rawpath.length ≤ raw.length ∧ v.frag.length ≤ raw.length ∧ v.rawfrag.length ≤ raw.length := by
  unfold parse at h
  have h1 := cutB_len [35] raw
  have h2 := cutA_len [35] raw
  cases h0 : parse0 (cutB [35] raw) false with
  | none => rw [h0] at h; cases h
  | some u =>
    rw [h0] at h
    have hs := parse0_sz h0
    simp only at h
    split at h
    · cases h; exact ⟨by omega, by omega, by rw [hs.2.2.1]; simp, by rw [hs.2.2.2]; simp⟩
    · unfold setFrag at h
      obtain ⟨x, hx, rfl⟩ := Option.map_eq_some_iff.1 h
      have := dec_len false _ _ x (Nat.le_refl _) hx
      refine ⟨by simpa using (by omega : u.path.length ≤ raw.length), by simpa using (by omega : u.rawpath.length ≤ raw.length), by simpa using (by omega : x.length ≤ raw.length), ?_⟩
      show (if cutA [35] raw = esc 64 x then [] else cutA [35] raw : Bytes).length ≤ _
      split
      · simp
      · omega
end NU
