/-
  Plain Lean: a query that was written from values is parsed into them, also with empty settings in it.
-/
import Derived.Test.YtlholchmgheemaaDoorP18
namespace NU
set_option linter.unusedVariables false
set_option linter.unusedSimpArgs false
theorem cnt_app (c : UInt8) (a b : Bytes) : cnt c (a ++ b) = cnt c a + cnt c b := by
  unfold cnt; rw [List.filter_append, List.length_append]
theorem qstep_nil (st : QM × Bool) : qstep [] st = st := by unfold qstep; rw [if_pos rfl]
/-- A query in two parts. -/
theorem qrun_app (n : Nat) (a b : Bytes) (st : QM × Bool) (hn : a.length ≤ n) : qrun (a ++ 38 :: b) st = qrun b (qrun a st) := by
  induction n generalizing a st with
  | zero =>
    have : a = [] := List.eq_nil_of_length_eq_zero (by omega)
    subst this
    have h := cutB_some 38 [] b (by simp)
    rw [List.nil_append] at h ⊢
    rw [qrun_nil, qrun_cons (by simp), h.1, h.2, qstep_nil]
  | succ n ih =>
    by_cases hm : (38 : UInt8) ∈ a
    · obtain ⟨x, y, rfl, hx⟩ := first_split 38 a hm
      have h1 := cutB_some 38 x y hx
      have h2 := cutB_some 38 x (y ++ 38 :: b) hx
      have hl : y.length ≤ n := by simp only [List.length_append, List.length_cons] at hn; omega
      rw [qrun_cons (q := x ++ 38 :: y) (by simp), h1.1, h1.2, ← ih y _ hl, qrun_cons (by simp)]
      rw [List.append_assoc, List.cons_append, h2.1, h2.2]
    · have h2 := cutB_some 38 a b hm
      have h1 := cutB_none 38 a hm
      rw [qrun_cons (q := a ++ 38 :: b) (by simp), h2.1, h2.2]
      by_cases ha : a = []
      · subst ha; rw [qrun_nil, qstep_nil]
      · rw [qrun_cons ha, h1.1, h1.2, qrun_nil]
theorem qrun_one (one : Bytes) (st : QM × Bool) (h : (38 : UInt8) ∉ one) : qrun one st = qstep one st := by
  by_cases ha : one = []
  · subst ha; rw [qrun_nil, qstep_nil]
  · have h1 := cutB_none 38 one h
    rw [qrun_cons ha, h1.1, h1.2, qrun_nil]
theorem esc_mem (s : Bytes) (d : UInt8) (h : d ∈ esc 32 s) : d ≠ 38 ∧ d ≠ 59 ∧ d ≠ 61 := by
  induction s with
  | nil => cases h
  | cons c r ih =>
    rw [esc, List.mem_append] at h
    rcases h with h | h
    · have := all_u8 (fun c => (esc1 32 c).all (fun d => decide (d ≠ 38 ∧ d ≠ 59 ∧ d ≠ 61))) (by decide +kernel) c
      rw [List.all_eq_true] at this
      exact of_decide_eq_true (this d h)
    · exact ih h
def oneq (k v : Bytes) : Bytes := esc 32 k ++ [61] ++ esc 32 v
theorem oneq_mem (k v : Bytes) (d : UInt8) (h : d ∈ oneq k v) : d ≠ 38 ∧ d ≠ 59 := by
  unfold oneq at h
  rw [List.mem_append, List.mem_append] at h
  rcases h with (h | h) | h
  · exact ⟨(esc_mem k d h).1, (esc_mem k d h).2.1⟩
  · have : d = 61 := by simpa using h
    subst this; decide
  · exact ⟨(esc_mem v d h).1, (esc_mem v d h).2.1⟩
theorem dec_esc32 (s : Bytes) : dec true (esc 32 s) = some s := dec_esc true 32 s (by decide +kernel) rfl (fun _ => by decide +kernel)
theorem setting_oneq (k v : Bytes) : setting (oneq k v) = some (k, v) := by
  have h59 : mem (oneq k v) 59 = false := by
    unfold mem
    rw [Bool.eq_false_iff]; intro e
    rw [List.any_eq_true] at e
    obtain ⟨d, hd, e⟩ := e
    have : (59 : UInt8) = d := by simpa using e
    exact (oneq_mem k v d hd).2 this.symm
  have h61 : (61 : UInt8) ∉ esc 32 k := fun h => (esc_mem k 61 h).2.2 rfl
  have hc := cutB_some 61 (esc 32 k) (esc 32 v) h61
  unfold setting
  rw [h59, if_neg (by simp)]
  rw [show oneq k v = esc 32 k ++ 61 :: esc 32 v by simp [oneq], hc.1, hc.2, dec_esc32, dec_esc32]
theorem qstep_oneq (k v : Bytes) (st : QM × Bool) : qstep (oneq k v) st = (qput k v st.1, st.2) := by
  unfold qstep
  rw [if_neg (by simp [oneq]), setting_oneq]
theorem qrun_encw (a k v : Bytes) (st : QM × Bool) : qrun (encw a k v) st = (qput k v (qrun a st).1, (qrun a st).2) := by
  have h38 : (38 : UInt8) ∉ oneq k v := fun h => (oneq_mem k v 38 h).1 rfl
  unfold encw
  change qrun ((if a = [] then a else a ++ [38]) ++ oneq k v) st = _
  by_cases ha : a = []
  · rw [if_pos ha]; subst ha
    rw [List.nil_append, qrun_one _ _ h38, qstep_oneq, qrun_nil]
  · rw [if_neg ha, List.append_assoc, List.singleton_append, qrun_app a.length _ _ _ (Nat.le_refl _), qrun_one _ _ h38, qstep_oneq]
theorem qrun_encv (k : Bytes) (vs : List Bytes) (a : Bytes) (st : QM × Bool) : qrun (encv a k vs) st = (putAll k vs (qrun a st).1, (qrun a st).2) := by
  unfold encv putAll
  induction vs generalizing a with
  | nil => rfl
  | cons v r ih => rw [List.foldl_cons, ih, qrun_encw, List.foldl_cons]
def putM (M : PL) (N : QM) : QM := M.foldl (fun N p => putAll p.1 p.2 N) N
theorem qrun_encM (M : PL) (a : Bytes) (st : QM × Bool) : qrun (M.foldl (fun a p => encv a p.1 p.2) a) st = (putM M (qrun a st).1, (qrun a st).2) := by
  unfold putM
  induction M generalizing a with
  | nil => rfl
  | cons p r ih => rw [List.foldl_cons, ih, qrun_encv, List.foldl_cons]
theorem upd_last {α : Type} (f : Option α → α) (k : Bytes) (M R : List (Bytes × α)) (h : ∀ p ∈ M, lt p.1 k = true) : upd f k (M ++ R) = M ++ upd f k R := by
  induction M with
  | nil => rfl
  | cons q r ih => rw [List.cons_append, upd, if_pos (h q (by simp)), ih (fun p hp => h p (by simp [hp])), List.cons_append]
theorem putAll_at (k : Bytes) (M : QM) (h : ∀ p ∈ M, lt p.1 k = true) (vs l : List Bytes) : putAll k vs (M ++ [(k, l)]) = M ++ [(k, l ++ vs)] := by
  induction vs generalizing l with
  | nil => simp [putAll]
  | cons v r ih =>
    have : putAll k (v :: r) (M ++ [(k, l)]) = putAll k r (qput k v (M ++ [(k, l)])) := rfl
    rw [this]
    unfold qput
    rw [upd_last _ _ _ _ h]
    unfold upd
    rw [if_neg (by rw [lt_irrefl]; simp), if_pos rfl, ih]
    simp
theorem putAll_new (k : Bytes) (M : QM) (h : ∀ p ∈ M, lt p.1 k = true) (vs : List Bytes) (hv : vs ≠ []) : putAll k vs M = M ++ [(k, vs)] := by
  cases vs with
  | nil => exact absurd rfl hv
  | cons v r =>
    have : putAll k (v :: r) M = putAll k r (qput k v M) := rfl
    rw [this]
    have e : qput k v M = M ++ [(k, [v])] := by
      have := upd_last (fun o : Option (List Bytes) => o.getD [] ++ [v]) k M [] h
      rw [List.append_nil] at this
      unfold qput
      rw [this]; rfl
    rw [e, putAll_at k M h]; rfl
theorem putM_id (M N : QM) (hs : Srt (N ++ M)) (hv : ∀ p ∈ M, p.2 ≠ []) : putM M N = N ++ M := by
  induction M generalizing N with
  | nil => simp [putM]
  | cons p r ih =>
    have : putM (p :: r) N = putM r (putAll p.1 p.2 N) := rfl
    rw [this]
    have hN : ∀ q ∈ N, lt q.1 p.1 = true := fun q hq => (List.pairwise_append.1 hs).2.2 q hq p (by simp)
    rw [putAll_new _ _ hN _ (hv p (by simp))]
    rw [ih _ (by rw [List.append_assoc]; exact hs) (fun q hq => hv q (by simp [hq]))]
    simp
def NoE (M : QM) : Prop := ∀ p ∈ M, p.2 ≠ []
theorem noE_qput (k v : Bytes) (M : QM) (h : NoE M) : NoE (qput k v M) := by
  unfold qput
  induction M with
  | nil =>
    intro p hp
    simp [upd] at hp
    subst hp; simp
  | cons q r ih =>
    have hr : NoE r := fun p hp => h p (by simp [hp])
    unfold upd
    intro p hp
    split at hp
    · rcases List.mem_cons.1 hp with rfl | hp
      · exact h _ (by simp)
      · exact ih hr p hp
    · split at hp
      · rcases List.mem_cons.1 hp with rfl | hp
        · simp
        · exact hr p hp
      · rcases List.mem_cons.1 hp with rfl | hp
        · simp
        · exact h p hp
theorem noE_putAll (k : Bytes) (vs : List Bytes) (M : QM) (h : NoE M) : NoE (putAll k vs M) := by
  unfold putAll
  induction vs generalizing M with
  | nil => exact h
  | cons v r ih => exact ih _ (noE_qput _ _ _ h)
theorem good_specGo (l : PL) (M : QM) (h : NoE M) (hs : Srt M) : NoE (specGo l M) ∧ Srt (specGo l M) := by
  induction l generalizing M with
  | nil => exact ⟨h, hs⟩
  | cons p r ih =>
    rw [specGo]
    unfold specStep
    split
    · exact ih _ (noE_putAll _ _ _ h) (srt_putAll _ _ _ hs)
    · exact ih _ h hs
theorem good_specPairs (l : PL) : NoE (specPairs l) ∧ Srt (specPairs l) := by
  unfold specPairs
  split
  · exact good_specGo l [] (fun _ h => by cases h) srt_nil
  · exact ⟨(fun _ h => by cases h), srt_nil⟩
theorem qrun_encq (M : QM) (hs : Srt M) (hv : NoE M) : qrun (encq M) ([], false) = (M, false) := by
  unfold encq
  rw [qrun_encM, qrun_nil, putM_id M [] hs hv]; rfl
theorem cnt_encw (a k v : Bytes) : cnt 38 (encw a k v) ≤ cnt 38 a + 1 := by
  have h0 : cnt 38 (oneq k v) = 0 := cnt_zero _ _ (fun h => (oneq_mem k v 38 h).1 rfl)
  unfold encw
  change cnt 38 ((if a = [] then a else a ++ [38]) ++ oneq k v) ≤ _
  rw [cnt_app, h0]
  split
  · omega
  · rw [cnt_app, cnt_cons, cnt_nil]; simp
theorem cnt_encv (k : Bytes) (vs : List Bytes) (a : Bytes) : cnt 38 (encv a k vs) ≤ cnt 38 a + vs.length := by
  unfold encv
  induction vs generalizing a with
  | nil => simp
  | cons v r ih =>
    rw [List.foldl_cons, List.length_cons]
    have := ih (encw a k v)
    have := cnt_encw a k v
    omega
theorem cnt_encM (M : PL) (a : Bytes) : cnt 38 (M.foldl (fun a p => encv a p.1 p.2) a) ≤ cnt 38 a + total M := by
  induction M generalizing a with
  | nil => simp
  | cons p r ih =>
    rw [List.foldl_cons, total_cons]
    have := ih (encv a p.1 p.2)
    have := cnt_encv p.1 p.2 a
    omega
theorem cnt_encq (M : PL) : cnt 38 (encq M) ≤ total M := by
  have := cnt_encM M []
  rw [cnt_nil] at this
  unfold encq; omega
theorem qparse_encq (M : QM) (hs : Srt M) (hv : NoE M) (ht : total M ≤ 2000) : qparse (encq M) = (M, false) := by
  have := cnt_encq M
  unfold qparse
  rw [if_neg (by omega), qrun_encq M hs hv]
theorem esc_len3 (m : UInt8) (s : Bytes) : (esc m s).length ≤ 3 * s.length := by
  have := esc_length m s
  have := hexN_le m s
  omega
theorem encw_len (a k v : Bytes) (hk : k.length ≤ 2147483647) (hv : v.length ≤ 2147483647) : (encw a k v).length ≤ a.length + 12884901890 := by
  have h1 := esc_len3 32 k
  have h2 := esc_len3 32 v
  unfold encw
  simp only [List.length_append]
  have h3 : (if a = [] then a else a ++ [38]).length ≤ a.length + 1 := by split <;> simp
  have h4 : ([61] : Bytes).length = 1 := rfl
  omega
theorem encv_len (k : Bytes) (vs : List Bytes) (a : Bytes) (hk : k.length ≤ 2147483647) (hv : ∀ v ∈ vs, v.length ≤ 2147483647) : (encv a k vs).length ≤ a.length + vs.length * 12884901890 := by
  unfold encv
  induction vs generalizing a with
  | nil => simp
  | cons v r ih =>
    rw [List.foldl_cons, List.length_cons]
    have := ih (encw a k v) (fun x hx => hv x (by simp [hx]))
    have := encw_len a k v hk (hv v (by simp))
    omega
theorem encM_len (M : PL) (a : Bytes) (h : SmallM M) : (M.foldl (fun a p => encv a p.1 p.2) a).length ≤ a.length + total M * 12884901890 := by
  induction M generalizing a with
  | nil => simp
  | cons p r ih =>
    rw [List.foldl_cons, total_cons]
    have := ih (encv a p.1 p.2) (fun q hq => h q (by simp [hq]))
    have := encv_len p.1 p.2 a (h p (by simp)).1 (h p (by simp)).2
    omega
theorem encq_len (M : PL) (h : SmallM M) : (encq M).length ≤ total M * 12884901890 := by
  have := encM_len M [] h
  unfold encq
  simpa using this
/-- Behind a bound of settings, or at the head, an empty setting is of no weight; nor at the end. -/
theorem qrun_holes (s : Bytes) (n : Nat) (hn : n = 0 ∨ ∃ h : n - 1 < s.length, s[n - 1] = 38 ∧ 0 < n) (st : QM × Bool) : qrun (s.take n ++ 38 :: (s.drop n ++ [38])) st = qrun s st := by
  have e : ∀ (a : Bytes) (st : QM × Bool), qrun (a ++ [38]) st = qrun a st := fun a st => by
    rw [qrun_app a.length a [] st (Nat.le_refl _), qrun_nil]
  rw [qrun_app (s.take n).length _ _ _ (Nat.le_refl _), e]
  rcases hn with rfl | ⟨h, h1, h2⟩
  · rw [List.take_zero, List.drop_zero, qrun_nil]
  · have h3 : s.take n = s.take (n - 1) ++ [38] := by
      have := List.take_succ_eq_append_getElem h
      rw [h1, show n - 1 + 1 = n by omega] at this; exact this
    rw [h3, e, ← qrun_app (s.take (n - 1)).length _ _ _ (Nat.le_refl _)]
    have : s.take (n - 1) ++ 38 :: s.drop n = s := by
      conv => rhs; rw [← List.take_append_drop n s, h3]
      simp
    rw [this]
theorem qparse_holes (M : QM) (hs : Srt M) (hv : NoE M) (ht : total M ≤ 2000) (n : Nat) (hn : n = 0 ∨ ∃ h : n - 1 < (encq M).length, (encq M)[n - 1] = 38 ∧ 0 < n) : qparse ((encq M).take n ++ 38 :: ((encq M).drop n ++ [38])) = (M, false) := by
  have h1 := cnt_encq M
  have h2 : cnt 38 ((encq M).take n) + cnt 38 ((encq M).drop n) = cnt 38 (encq M) := by rw [← cnt_app, List.take_append_drop]
  unfold qparse
  rw [cnt_app, cnt_cons, cnt_app, cnt_cons, cnt_nil]
  have : (if ((38 : UInt8) == 38) = true then 1 else 0) = 1 := rfl
  rw [this, if_neg (by omega), qrun_holes _ _ hn, qrun_encq M hs hv]
end NU
