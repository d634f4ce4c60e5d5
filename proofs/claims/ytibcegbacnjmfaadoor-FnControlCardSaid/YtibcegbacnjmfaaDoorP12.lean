/-
  Plain Lean: what escaping gives is a segment, a setting, a path, a fragment; which hints are valid.
-/
import Derived.Test.YtibcegbacnjmfaaDoorP10
namespace NU
set_option linter.unusedVariables false
set_option linter.unusedSimpArgs false
/-- A character of the grammar, percent signs aside. -/
def okc (more : Bytes) (c : UInt8) : Bool := unreserved c || mem [33, 36, 38, 39, 40, 41, 42, 43, 44, 59, 61] c || mem more c
theorem hexd_ok (c : UInt8) : unreserved (hexU (c >>> 4)) = true ∧ unreserved (hexU (c &&& 15)) = true := by
  have := all_u8 (fun c => unreserved (hexU (c >>> 4)) && unreserved (hexU (c &&& 15))) (by decide +kernel) c
  simpa using this
theorem chars_esc (more : Bytes) (m : UInt8) (s : Bytes) (h : ∀ c, should m c = false → okc more c = true ∧ c ≠ 37) : chars more true (esc m s) = true := by
  induction s with
  | nil => exact chars_nil _ _
  | cons c r ih =>
    rw [esc, esc1]
    by_cases hb : blank m c = true
    · rw [if_pos hb, List.singleton_append, chars_other _ _ _ _ (by decide), ih]; rfl
    · rw [if_neg hb]
      by_cases hs : should m c = true
      · rw [if_pos hs]
        have h2 := hex2_hexU c
        rw [List.cons_append, List.cons_append, List.cons_append, List.nil_append, chars_pct, ih]
        rw [decide_eq_true h2.1, decide_eq_true h2.2.1]; rfl
      · rw [if_neg hs]
        have h3 := h c (by simpa using hs)
        rw [List.singleton_append, chars_other _ _ _ _ (by simpa using h3.2), ih]
        have h4 := h3.1
        unfold okc at h4
        rw [h4]; rfl
theorem ok_segment (c : UInt8) (h : should 2 c = false) : okc [58, 64] c = true ∧ c ≠ 37 := by
  have := all_u8 (fun c => should 2 c || (okc [58, 64] c && c != 37)) (by decide +kernel) c
  simpa [h] using this
theorem ok_query (c : UInt8) (h : should 32 c = false) : okc [58, 64, 47, 63] c = true ∧ c ≠ 37 := by
  have := all_u8 (fun c => should 32 c || (okc [58, 64, 47, 63] c && c != 37)) (by decide +kernel) c
  simpa [h] using this
theorem ok_path (c : UInt8) (h : should 1 c = false) : okc [58, 64, 47] c = true ∧ c ≠ 37 := by
  have := all_u8 (fun c => should 1 c || (okc [58, 64, 47] c && c != 37)) (by decide +kernel) c
  simpa [h] using this
theorem ok_fragment (c : UInt8) (h : should 64 c = false) : okc [58, 64, 47, 63] c = true ∧ c ≠ 37 := by
  have := all_u8 (fun c => should 64 c || (okc [58, 64, 47, 63] c && c != 37)) (by decide +kernel) c
  simpa [h] using this
theorem segment_esc (s : Bytes) : chars [58, 64] true (esc 2 s) = true := chars_esc _ _ s ok_segment
/-- No byte of a set in what was escaped. -/
theorem index_none (set s : Bytes) (h : ∀ c ∈ s, mem set c = false) : index s set = s.length := by
  induction s with
  | nil => rfl
  | cons c r ih =>
    rw [index_cons, h c (by simp), ih (fun d hd => h d (by simp [hd]))]; rfl
theorem setting_esc (s : Bytes) : chars [58, 64, 47, 63] true (esc 32 s) = true ∧ index (esc 32 s) [38, 59, 61] = (esc 32 s).length := by
  refine ⟨chars_esc _ _ s ok_query, index_none _ _ ?_⟩
  induction s with
  | nil => intro c hc; cases hc
  | cons c r ih =>
    intro d hd
    rw [esc] at hd
    rcases List.mem_append.1 hd with hd | hd
    · have hp : ∀ c, (esc1 32 c).all (fun d => !mem [38, 59, 61] d) = true := fun c => all_u8 (fun c => (esc1 32 c).all (fun d => !mem [38, 59, 61] d)) (by decide +kernel) c
      have := List.all_eq_true.1 (hp c) d hd
      simpa using this
    · exact ih d hd
/-- The hints that the package takes. -/
def venc1 (m c : UInt8) : Bool := mem [33, 36, 38, 39, 40, 41, 42, 43, 44, 59, 61, 58, 64] c || mem [91, 93] c || c == 37 || !should m c
def venc (m : UInt8) (s : Bytes) : Bool := s.all (venc1 m)
theorem hex_venc (m c : UInt8) (hm : m = 1 ∨ m = 64) (h : 0 ≤ hexv c) : venc1 m c = true := by
  have h1 := all_u8 (fun c => decide (0 ≤ hexv c → venc1 1 c = true ∧ venc1 64 c = true)) (by decide +kernel) c
  have h2 := (of_decide_eq_true h1) h
  rcases hm with rfl | rfl
  · exact h2.1
  · exact h2.2
theorem venc_chars (more : Bytes) (m : UInt8) (hm : m = 1 ∨ m = 64) (hok : ∀ c, okc more c = true → venc1 m c = true) (n : Nat) (s : Bytes) (hn : s.length ≤ n) (h : chars more true s = true) : venc m s = true := by
  induction n generalizing s with
  | zero => have : s = [] := List.eq_nil_of_length_eq_zero (by omega); rw [this]; rfl
  | succ n ih =>
    match s with
    | [] => rfl
    | c :: r =>
      simp only [List.length_cons] at hn
      by_cases hc : c = 37
      · subst hc
        match r with
        | [] => rw [chars_short _ _ _ (by simp)] at h; cases h
        | [a] => rw [chars_short _ _ _ (by simp)] at h; cases h
        | a :: b :: r' =>
          rw [chars_pct] at h
          simp only [List.length_cons] at hn
          simp at h
          have := ih r' (by omega) h.2
          unfold venc at this ⊢
          simp only [List.all_cons, this, hex_venc m a hm h.1.1, hex_venc m b hm h.1.2]
          simp [venc1]
      · rw [chars_other _ _ _ _ (by simpa using hc)] at h
        rw [Bool.and_eq_true] at h
        have := ih r (by omega) h.2
        unfold venc at this ⊢
        rw [List.all_cons, this, hok c h.1]; rfl
theorem venc_path (s : Bytes) (h : chars [58, 64, 47] true s = true) : venc 1 s = true :=
  venc_chars [58, 64, 47] 1 (.inl rfl) (fun c hc => by
    have := all_u8 (fun c => !okc [58, 64, 47] c || venc1 1 c) (by decide +kernel) c
    simpa [hc] using this) s.length s (Nat.le_refl _) h
theorem venc_fragment (s : Bytes) (h : chars [58, 64, 47, 63] true s = true) : venc 64 s = true :=
  venc_chars [58, 64, 47, 63] 64 (.inr rfl) (fun c hc => by
    have := all_u8 (fun c => !okc [58, 64, 47, 63] c || venc1 64 c) (by decide +kernel) c
    simpa [hc] using this) s.length s (Nat.le_refl _) h
/-- The escaped path, or fragment, of a URL. -/
def hintOk (m : UInt8) (p h : Bytes) : Bool := !h.isEmpty && venc m h && dec false h == some p
def escPath (p h : Bytes) : Bytes := if hintOk 1 p h then h else if p = [42] then [42] else esc 1 p
def escFrag (p h : Bytes) : Bytes := if hintOk 64 p h then h else esc 64 p
theorem hintOk_dec {m : UInt8} {p h : Bytes} (hk : hintOk m p h = true) : dec false h = some p := by
  unfold hintOk at hk
  rw [Bool.and_eq_true] at hk
  simpa using hk.2
theorem escPath_dec (p h : Bytes) : dec false (escPath p h) = some p := by
  unfold escPath
  split
  · rename_i hk; exact hintOk_dec hk
  · split
    · rename_i hp; rw [hp]; rfl
    · exact dec_esc false 1 p (by decide +kernel) (by decide) (fun h => by cases h)
theorem escFrag_dec (p h : Bytes) : dec false (escFrag p h) = some p := by
  unfold escFrag
  split
  · rename_i hk; exact hintOk_dec hk
  · exact dec_esc false 64 p (by decide +kernel) (by decide) (fun h => by cases h)
theorem escPath_hint (p h : Bytes) (h0 : h ≠ []) (hd : dec false h = some p) (hc : chars [58, 64, 47] true h = true) : escPath p h = h := by
  unfold escPath
  rw [if_pos]
  unfold hintOk
  rw [venc_path h hc, hd]
  cases h with
  | nil => exact absurd rfl h0
  | cons a b => simp
theorem escFrag_hint (p h : Bytes) (h0 : h ≠ []) (hd : dec false h = some p) (hc : chars [58, 64, 47, 63] true h = true) : escFrag p h = h := by
  unfold escFrag
  rw [if_pos]
  unfold hintOk
  rw [venc_fragment h hc, hd]
  cases h with
  | nil => exact absurd rfl h0
  | cons a b => simp
/-- The reference's element of a path. -/
def elem1 (c : UInt8) : Bytes := if unreserved c || c == 47 then [c] else [37, hexU (c >>> 4), hexU (c &&& 15)]
def elem : Bytes → Bytes
  | [] => []
  | c :: r => elem1 c ++ elem r
def wantQ1 (c : UInt8) : Bytes := if c == 32 then [43] else if c == 47 then [37, 50, 70] else elem1 c
def wantQ : Bytes → Bytes
  | [] => []
  | c :: r => wantQ1 c ++ wantQ r
theorem wantQ_esc (s : Bytes) : esc 32 s = wantQ s := by
  induction s with
  | nil => rfl
  | cons c r ih =>
    rw [esc, wantQ, ih]
    have := all_u8 (fun c => esc1 32 c == wantQ1 c) (by decide +kernel) c
    rw [show esc1 32 c = wantQ1 c by simpa using this]
theorem wantQ_app (a b : Bytes) : wantQ (a ++ b) = wantQ a ++ wantQ b := by
  induction a with
  | nil => rfl
  | cons c r ih => simp only [List.cons_append, wantQ, ih, List.append_assoc]
theorem elem_app (a b : Bytes) : elem (a ++ b) = elem a ++ elem b := by
  induction a with
  | nil => rfl
  | cons c r ih => simp only [List.cons_append, elem, ih, List.append_assoc]
theorem elem1_len (c : UInt8) : (elem1 c).length ≤ 3 := by unfold elem1; split <;> simp
theorem elem_len (s : Bytes) : (elem s).length ≤ 3 * s.length := by
  induction s with
  | nil => simp [elem]
  | cons c r ih => have := elem1_len c; simp only [elem, List.length_append, List.length_cons]; omega
theorem wantQ1_len (c : UInt8) : (wantQ1 c).length ≤ 3 := by
  unfold wantQ1; split
  · simp
  · split
    · simp
    · exact elem1_len c
theorem wantQ_len (s : Bytes) : (wantQ s).length ≤ 3 * s.length := by
  induction s with
  | nil => simp [wantQ]
  | cons c r ih => have := wantQ1_len c; simp only [wantQ, List.length_append, List.length_cons]; omega
end NU
