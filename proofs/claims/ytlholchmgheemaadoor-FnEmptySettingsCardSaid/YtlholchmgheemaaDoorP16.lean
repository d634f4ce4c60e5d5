/-
  Plain Lean: queries: settings by key, sorted; what the package and the reference make of a query.
-/
import Derived.Test.YtlholchmgheemaaDoorP
namespace NU
set_option linter.unusedVariables false
set_option linter.unusedSimpArgs false
/-- Go's '<' on strings. -/
def lt : Bytes → Bytes → Bool
  | _, [] => false
  | [], _ :: _ => true
  | a :: x, b :: y => decide (a < b) || (a == b && lt x y)
theorem lt_irrefl (a : Bytes) : lt a a = false := by
  induction a with
  | nil => rfl
  | cons c r ih => rw [lt]; simp [ih]
theorem lt_trans : ∀ (a b c : Bytes), lt a b = true → lt b c = true → lt a c = true
  | _, _, [], _, h => by simp [lt] at h
  | _, [], _ :: _, h, _ => by simp [lt] at h
  | [], _ :: _, _ :: _, _, _ => by simp [lt]
  | x :: a, y :: b, z :: c, h, k => by
    simp only [lt, Bool.or_eq_true, Bool.and_eq_true, decide_eq_true_eq, beq_iff_eq] at h k ⊢
    rcases h with h | ⟨rfl, h⟩
    · rcases k with k | ⟨rfl, k⟩
      · left; exact UInt8.lt_trans h k
      · left; exact h
    · rcases k with k | ⟨rfl, k⟩
      · left; exact k
      · right; exact ⟨rfl, lt_trans a b c h k⟩
theorem lt_total : ∀ (a b : Bytes), a ≠ b → lt a b = true ∨ lt b a = true
  | [], [], h => absurd rfl h
  | [], _ :: _, _ => .inl (by simp [lt])
  | _ :: _, [], _ => .inr (by simp [lt])
  | x :: a, y :: b, h => by
    simp only [lt, Bool.or_eq_true, Bool.and_eq_true, decide_eq_true_eq, beq_iff_eq]
    by_cases e : x = y
    · subst e
      rcases lt_total a b (fun e => h (by rw [e])) with k | k
      · left; right; exact ⟨rfl, k⟩
      · right; right; exact ⟨rfl, k⟩
    · have : x < y ∨ y < x := by
        have h1 : x.toNat ≠ y.toNat := fun e2 => e (UInt8.toNat_inj.1 e2)
        rcases Nat.lt_or_gt_of_ne h1 with h2 | h2
        · left; exact UInt8.lt_iff_toNat_lt.2 h2
        · right; exact UInt8.lt_iff_toNat_lt.2 h2
      rcases this with k | k
      · left; left; exact k
      · right; left; exact k
theorem lt_asymm (a b : Bytes) (h : lt a b = true) : lt b a = false := by
  cases k : lt b a with
  | false => rfl
  | true => have := lt_trans a b a h k; rw [lt_irrefl] at this; cases this
theorem lt_ne {a b : Bytes} (h : lt a b = true) : a ≠ b := by rintro rfl; rw [lt_irrefl] at h; cases h

section
variable {α : Type}
/-- What stands at a key of a sorted list is turned, or laid in. -/
def upd (f : Option α → α) (k : Bytes) : List (Bytes × α) → List (Bytes × α)
  | [] => [(k, f none)]
  | p :: r => if lt p.1 k = true then p :: upd f k r else if p.1 = k then (k, f (some p.2)) :: r else (k, f none) :: p :: r
def look (k : Bytes) : List (Bytes × α) → Option α
  | [] => none
  | p :: r => if p.1 = k then some p.2 else look k r
def Srt (l : List (Bytes × α)) : Prop := l.Pairwise (fun p q => lt p.1 q.1 = true)
theorem srt_nil : Srt ([] : List (Bytes × α)) := List.Pairwise.nil
theorem mem_upd {f : Option α → α} {k : Bytes} {l : List (Bytes × α)} {p : Bytes × α} (h : p ∈ upd f k l) : p.1 = k ∨ p ∈ l := by
  induction l with
  | nil => simp [upd] at h; left; rw [h]
  | cons q r ih =>
    unfold upd at h
    split at h
    · rcases List.mem_cons.1 h with rfl | h
      · right; simp
      · rcases ih h with h | h
        · exact .inl h
        · right; simp [h]
    · split at h
      · rcases List.mem_cons.1 h with rfl | h
        · left; rfl
        · right; simp [h]
      · rcases List.mem_cons.1 h with rfl | h
        · left; rfl
        · right; exact h
theorem srt_upd (f : Option α → α) (k : Bytes) (l : List (Bytes × α)) (h : Srt l) : Srt (upd f k l) := by
  induction l with
  | nil => simp [upd, Srt]
  | cons q r ih =>
    obtain ⟨h1, h2⟩ := List.pairwise_cons.1 h
    unfold upd
    split
    · rename_i hl
      refine List.pairwise_cons.2 ⟨fun p hp => ?_, ih h2⟩
      rcases mem_upd hp with e | hp
      · rw [e]; exact hl
      · exact h1 p hp
    · split
      · rename_i e
        refine List.pairwise_cons.2 ⟨fun p hp => ?_, h2⟩
        show lt k p.1 = true
        rw [← e]; exact h1 p hp
      · rename_i hl hne
        have hk : lt k q.1 = true := by
          rcases lt_total k q.1 (fun e => hne e.symm) with h' | h'
          · exact h'
          · exact absurd h' hl
        refine List.pairwise_cons.2 ⟨fun p hp => ?_, h⟩
        rcases List.mem_cons.1 hp with rfl | hp
        · exact hk
        · exact lt_trans _ _ _ hk (h1 p hp)
theorem look_none {k : Bytes} {l : List (Bytes × α)} (h : ∀ p ∈ l, p.1 ≠ k) : look k l = none := by
  induction l with
  | nil => rfl
  | cons q r ih => rw [look, if_neg (h q (by simp)), ih (fun p hp => h p (by simp [hp]))]
theorem look_some {k : Bytes} {l : List (Bytes × α)} {x : α} (h : look k l = some x) : (k, x) ∈ l := by
  induction l with
  | nil => cases h
  | cons q r ih =>
    unfold look at h
    split at h
    · rename_i e
      simp at h
      rw [← h, ← e]; simp
    · simp [ih h]
theorem look_of_mem {l : List (Bytes × α)} (h : Srt l) {p : Bytes × α} (hp : p ∈ l) : look p.1 l = some p.2 := by
  induction l with
  | nil => cases hp
  | cons q r ih =>
    obtain ⟨h1, h2⟩ := List.pairwise_cons.1 h
    unfold look
    rcases List.mem_cons.1 hp with rfl | hp
    · rw [if_pos rfl]
    · rw [if_neg (lt_ne (h1 p hp)), ih h2 hp]
theorem look_upd (f : Option α → α) (k k' : Bytes) (l : List (Bytes × α)) (h : Srt l) : look k' (upd f k l) = if k' = k then some (f (look k l)) else look k' l := by
  induction l with
  | nil =>
    unfold upd look
    by_cases e : k' = k
    · subst e; simp [look]
    · simp [look, e, Ne.symm e]
  | cons q r ih =>
    obtain ⟨h1, h2⟩ := List.pairwise_cons.1 h
    by_cases hl : lt q.1 k = true
    · have hne := lt_ne hl
      rw [upd, if_pos hl, look]
      by_cases e : k' = k
      · subst e
        rw [if_neg hne, ih h2, if_pos rfl, if_pos rfl]
        rw [show look k' (q :: r) = look k' r by rw [look, if_neg hne]]
      · rw [ih h2, if_neg e, if_neg e]; rfl
    · by_cases e0 : q.1 = k
      · rw [upd, if_neg hl, if_pos e0, look]
        by_cases e : k' = k
        · subst e; rw [if_pos rfl, if_pos rfl, look, if_pos e0]
        · rw [if_neg (Ne.symm e), if_neg e, look, if_neg (by rw [e0]; exact Ne.symm e)]
      · have hk : lt k q.1 = true := by
          rcases lt_total k q.1 (fun e => e0 e.symm) with h' | h'
          · exact h'
          · exact absurd h' hl
        have hno : look k (q :: r) = none := by
          refine look_none (fun p hp => ?_)
          rcases List.mem_cons.1 hp with rfl | hp
          · exact e0
          · exact (lt_ne (lt_trans _ _ _ hk (h1 p hp))).symm
        rw [upd, if_neg hl, if_neg e0, hno, look]
        by_cases e : k' = k
        · subst e; simp
        · rw [if_neg (Ne.symm e), if_neg e]
theorem srt_ext {l m : List (Bytes × α)} (hl : Srt l) (hm : Srt m) (h : ∀ k, look k l = look k m) : l = m := by
  induction l generalizing m with
  | nil =>
    cases m with
    | nil => rfl
    | cons q r => have := h q.1; rw [look, look, if_pos rfl] at this; cases this
  | cons p l ih =>
    cases m with
    | nil => have := h p.1; rw [look, look, if_pos rfl] at this; cases this
    | cons q m =>
      obtain ⟨l1, l2⟩ := List.pairwise_cons.1 hl
      obtain ⟨m1, m2⟩ := List.pairwise_cons.1 hm
      have hpq : p.1 = q.1 := by
        by_cases e : p.1 = q.1
        · exact e
        · exfalso
          rcases lt_total _ _ e with hlt | hlt
          · have h1 := h p.1
            rw [look, if_pos rfl, look_none (l := q :: m)] at h1
            · cases h1
            · intro x hx
              rcases List.mem_cons.1 hx with rfl | hx
              · exact Ne.symm e
              · exact (lt_ne (lt_trans _ _ _ hlt (m1 x hx))).symm
          · have h1 := h q.1
            rw [show look q.1 (q :: m) = some q.2 by rw [look, if_pos rfl], look_none (l := p :: l)] at h1
            · cases h1
            · intro x hx
              rcases List.mem_cons.1 hx with rfl | hx
              · exact e
              · exact (lt_ne (lt_trans _ _ _ hlt (l1 x hx))).symm
      have hp2 : p.2 = q.2 := by
        have h1 := h p.1
        rw [look, if_pos rfl, look, if_pos hpq.symm] at h1
        exact Option.some.inj h1
      have : p = q := Prod.ext hpq hp2
      subst this
      rw [ih l2 m2 (fun k => ?_)]
      by_cases e : p.1 = k
      · subst e
        rw [look_none (fun x hx => (lt_ne (l1 x hx)).symm), look_none (fun x hx => (lt_ne (m1 x hx)).symm)]
      · have h1 := h k
        rwa [look, if_neg e, look, if_neg e] at h1
theorem upd_len (f : Option α → α) (k : Bytes) (l : List (Bytes × α)) : (upd f k l).length ≤ l.length + 1 := by
  induction l with
  | nil => simp [upd]
  | cons q r ih =>
    unfold upd
    split
    · simp only [List.length_cons]; omega
    · split <;> simp
theorem upd_map {β : Type} (f : Option α → α) (g : Option β → β) (φ : α → β) (hφ : ∀ o, φ (f o) = g (o.map φ)) (k : Bytes) (l : List (Bytes × α)) :
    (upd f k l).map (fun p => (p.1, φ p.2)) = upd g k (l.map (fun p => (p.1, φ p.2))) := by
  induction l with
  | nil => simp [upd, hφ]
  | cons q r ih =>
    rw [List.map_cons]
    unfold upd
    by_cases h1 : lt q.1 k = true
    · rw [if_pos h1, if_pos h1, List.map_cons, ih]
    · rw [if_neg h1, if_neg h1]
      by_cases h2 : q.1 = k
      · rw [if_pos h2, if_pos h2, List.map_cons]; simp [hφ]
      · rw [if_neg h2, if_neg h2, List.map_cons, List.map_cons]; simp [hφ]
end

abbrev QM := List (Bytes × List Bytes)
def qput (k v : Bytes) (M : QM) : QM := upd (fun o => o.getD [] ++ [v]) k M
def setting (one : Bytes) : Option (Bytes × Bytes) :=
  if mem one 59 then none
  else match dec true (cutB [61] one), dec true (cutA [61] one) with
    | some k, some v => some (k, v)
    | _, _ => none
/-- The package's step: the values so far, and whether there was an error. -/
def qstep (one : Bytes) (st : QM × Bool) : QM × Bool :=
  if one = [] then st
  else match setting one with
    | none => (st.1, true)
    | some (k, v) => (qput k v st.1, st.2)
def qgo : Nat → Bytes → QM × Bool → QM × Bool
  | 0, _, st => st
  | n + 1, q, st => if q = [] then st else qgo n (cutA [38] q) (qstep (cutB [38] q) st)
theorem cutA_lt {c : UInt8} {q : Bytes} (h : q ≠ []) : (cutA [c] q).length < q.length := by
  have h0 : 0 < q.length := List.length_pos_iff.2 h
  unfold cutA; split
  · exact h0
  · rw [List.length_drop]; simp only [List.length_cons, List.length_nil]; omega
theorem qgo_fuel : ∀ (n m : Nat) (q : Bytes) (st : QM × Bool), q.length < n → q.length < m → qgo n q st = qgo m q st
  | 0, _, _, _, h, _ => by omega
  | _, 0, _, _, _, h => by omega
  | n + 1, m + 1, q, st, hn, hm => by
    unfold qgo
    split
    · rfl
    · rename_i hq
      have := cutA_lt (c := 38) hq
      exact qgo_fuel n m _ _ (by omega) (by omega)
def qrun (q : Bytes) (st : QM × Bool) : QM × Bool := qgo (q.length + 1) q st
theorem qrun_nil (st : QM × Bool) : qrun [] st = st := by simp [qrun, qgo]
theorem qrun_cons {q : Bytes} (h : q ≠ []) (st : QM × Bool) : qrun q st = qrun (cutA [38] q) (qstep (cutB [38] q) st) := by
  have := cutA_lt (c := 38) h
  unfold qrun
  rw [qgo, if_neg h]
  exact qgo_fuel _ _ _ _ (by omega) (by omega)
def qparse (q : Bytes) : QM × Bool := if 10000 < cnt 38 q + 1 then ([], true) else qrun q ([], false)
theorem srt_qstep {one : Bytes} {st : QM × Bool} (h : Srt st.1) : Srt (qstep one st).1 := by
  unfold qstep
  split
  · exact h
  · split
    · exact h
    · exact srt_upd _ _ _ h
theorem srt_qrun (n : Nat) (q : Bytes) (st : QM × Bool) (hn : q.length ≤ n) (h : Srt st.1) : Srt (qrun q st).1 := by
  induction n generalizing q st with
  | zero =>
    have : q = [] := List.eq_nil_of_length_eq_zero (by omega)
    rw [this, qrun_nil]; exact h
  | succ n ih =>
    by_cases hq : q = []
    · rw [hq, qrun_nil]; exact h
    · rw [qrun_cons hq]
      have := cutA_lt (c := 38) hq
      exact ih _ _ (by omega) (srt_qstep h)
/-- The reference's step: the values, no setting is bad, none is empty. -/
def sstep (one : Bytes) (st : QM × Bool × Bool) : QM × Bool × Bool :=
  if one = [] then (st.1, st.2.1, false)
  else match setting one with
    | none => (st.1, false, st.2.2)
    | some (k, v) => (qput k v st.1, st.2.1, st.2.2)
def sgq : Nat → Bytes → QM × Bool × Bool → QM × Bool × Bool
  | 0, _, st => st
  | n + 1, s, st => if index s [38] < s.length then sgq n (s.drop (index s [38] + 1)) (sstep (s.take (index s [38])) st) else sstep s st
def srun (s : Bytes) (st : QM × Bool × Bool) : QM × Bool × Bool := sgq (s.length + 1) s st
theorem sgq_fuel : ∀ (n m : Nat) (s : Bytes) (st : QM × Bool × Bool), s.length < n → s.length < m → sgq n s st = sgq m s st
  | 0, _, _, _, h, _ => by omega
  | _, 0, _, _, _, h => by omega
  | n + 1, m + 1, s, st, hn, hm => by
    unfold sgq
    split
    · exact sgq_fuel n m _ _ (by simp only [List.length_drop]; omega) (by simp only [List.length_drop]; omega)
    · rfl
theorem srun_more {s : Bytes} (h : index s [38] < s.length) (st : QM × Bool × Bool) : srun s st = srun (s.drop (index s [38] + 1)) (sstep (s.take (index s [38])) st) := by
  unfold srun
  rw [sgq, if_pos h]
  exact sgq_fuel _ _ _ _ (by simp only [List.length_drop]; omega) (by omega)
theorem srun_last {s : Bytes} (h : ¬ index s [38] < s.length) (st : QM × Bool × Bool) : srun s st = sstep s st := by
  unfold srun; rw [sgq, if_neg h]
def sparse (s : Bytes) : QM × Bool × Bool := if s = [] then ([], true, true) else srun s ([], true, true)
theorem sstep_sure (one : Bytes) (st : QM × Bool × Bool) (h : st.2.2 = false) : (sstep one st).2.2 = false := by
  unfold sstep; split
  · rfl
  · split <;> exact h
theorem srun_sure (n : Nat) (s : Bytes) (st : QM × Bool × Bool) (hn : s.length ≤ n) (h : st.2.2 = false) : (srun s st).2.2 = false := by
  induction n generalizing s st with
  | zero =>
    have : s = [] := List.eq_nil_of_length_eq_zero (by omega)
    subst this
    rw [srun_last (by simp)]; exact sstep_sure _ _ h
  | succ n ih =>
    by_cases hl : index s [38] < s.length
    · rw [srun_more hl]
      exact ih _ _ (by simp only [List.length_drop]; omega) (sstep_sure _ _ h)
    · rw [srun_last hl]; exact sstep_sure _ _ h
theorem cut_index (c : UInt8) (s : Bytes) : cutB [c] s = s.take (index s [c]) ∧ cutA [c] s = s.drop (index s [c] + 1) ∧ ((0 ≤ fsub [c] s) ↔ index s [c] < s.length) := by
  have h : (fsub [c] s = -1 ∧ index s [c] = s.length) ∨ (fsub [c] s = (index s [c] : Nat) ∧ index s [c] < s.length) := by
    induction s with
    | nil => left; exact ⟨rfl, rfl⟩
    | cons d r ih =>
      rw [fsub_one_cons, index_cons, show mem [c] d = (d == c) by simp [mem]]
      by_cases e : (d == c) = true
      · right; rw [if_pos e, if_pos e]; simp
      · rw [if_neg e, if_neg e]
        rcases ih with ⟨h1, h2⟩ | ⟨h1, h2⟩
        · left; rw [h1, h2]; simp
        · right
          rw [h1, if_neg (by omega)]
          refine ⟨by omega, by simp only [List.length_cons]; omega⟩
  rcases h with ⟨h1, h2⟩ | ⟨h1, h2⟩
  · refine ⟨?_, ?_, by rw [h1, h2]; omega⟩
    · unfold cutB; rw [h1, if_pos (by omega), h2, List.take_of_length_le (Nat.le_refl _)]
    · unfold cutA; rw [h1, if_pos (by omega), h2, List.drop_eq_nil_of_le (by omega)]
  · refine ⟨?_, ?_, by rw [h1]; omega⟩
    · unfold cutB; rw [h1, if_neg (by omega), Int.toNat_natCast]
    · unfold cutA; rw [h1, if_neg (by omega), Int.toNat_natCast]; rfl
/-- Where no setting is empty the package and the reference say the same. -/
theorem query_same (n : Nat) (s : Bytes) (l : QM) (ok : Bool) (hn : s.length ≤ n) (h : (srun s (l, ok, true)).2.2 = true) :
    s ≠ [] ∧ qrun s (l, !ok) = ((srun s (l, ok, true)).1, !(srun s (l, ok, true)).2.1) := by
  have step : ∀ one : Bytes, one ≠ [] → (sstep one (l, ok, true)).2.2 = true ∧ qstep one (l, !ok) = ((sstep one (l, ok, true)).1, !(sstep one (l, ok, true)).2.1) := by
    intro one h1
    unfold sstep qstep
    rw [if_neg h1, if_neg h1]
    cases setting one with
    | none => exact ⟨rfl, rfl⟩
    | some kv => exact ⟨rfl, rfl⟩
  have empty : ∀ st : QM × Bool × Bool, (sstep [] st).2.2 = false := fun st => by unfold sstep; rw [if_pos rfl]
  induction n generalizing s l ok with
  | zero =>
    have : s = [] := List.eq_nil_of_length_eq_zero (by omega)
    subst this
    rw [srun_last (by simp), empty] at h; cases h
  | succ n ih =>
    obtain ⟨c1, c2, _⟩ := cut_index 38 s
    by_cases hl : index s [38] < s.length
    · have hs : s ≠ [] := by rintro rfl; simp at hl
      by_cases h1 : s.take (index s [38]) = []
      · rw [srun_more hl, h1, srun_sure _ _ _ (Nat.le_refl _) (empty _)] at h; cases h
      · obtain ⟨e1, e2⟩ := step _ h1
        rw [srun_more hl] at h ⊢
        obtain ⟨l', ok', su', he⟩ : ∃ l' ok' su', sstep (s.take (index s [38])) (l, ok, true) = (l', ok', su') := ⟨_, _, _, rfl⟩
        rw [he] at h e1 e2 ⊢
        simp only at e1 e2
        subst e1
        have step' : ∀ one : Bytes, one ≠ [] → (sstep one (l', ok', true)).2.2 = true ∧ qstep one (l', !ok') = ((sstep one (l', ok', true)).1, !(sstep one (l', ok', true)).2.1) := by
          intro one h1
          unfold sstep qstep
          rw [if_neg h1, if_neg h1]
          cases setting one with
          | none => exact ⟨rfl, rfl⟩
          | some kv => exact ⟨rfl, rfl⟩
        have := ih (s.drop (index s [38] + 1)) l' ok' (by simp only [List.length_drop]; omega) h step'
        refine ⟨hs, ?_⟩
        rw [qrun_cons hs, c1, c2, e2]
        exact this.2
    · rw [srun_last hl] at h ⊢
      by_cases hs : s = []
      · rw [hs, empty] at h; cases h
      · obtain ⟨e1, e2⟩ := step s hs
        refine ⟨hs, ?_⟩
        have hi : index s [38] = s.length := Nat.le_antisymm (index_le _ _) (by omega)
        rw [qrun_cons hs, c1, c2, hi, List.take_of_length_le (Nat.le_refl _), List.drop_eq_nil_of_le (by omega), qrun_nil, e2]
theorem parse_same (s : Bytes) (h : (sparse s).2.2 = true) : qrun s ([], false) = ((sparse s).1, !(sparse s).2.1) := by
  unfold sparse at h ⊢
  by_cases hs : s = []
  · rw [if_pos hs, hs, qrun_nil]; rfl
  · rw [if_neg hs] at h ⊢
    exact (query_same _ s [] true (Nat.le_refl _) h).2
/-- How many settings are to come. -/
theorem cnt_cut (q : Bytes) : (cutA [38] q ≠ [] → cnt 38 (cutA [38] q) + 1 ≤ cnt 38 q) := by
  intro h
  by_cases hm : (38 : UInt8) ∈ q
  · obtain ⟨x, y, rfl, hx⟩ := first_split 38 q hm
    rw [(cutB_some 38 x y hx).2]
    have : cnt 38 (x ++ 38 :: y) = cnt 38 x + (1 + cnt 38 y) := by
      unfold cnt; rw [List.filter_append, List.length_append, List.filter_cons]; simp; omega
    omega
  · exact absurd (cutB_none 38 q hm).2 h
theorem cnt_drop (s : Bytes) (h : index s [38] < s.length) : cnt 38 (s.drop (index s [38] + 1)) + 1 = cnt 38 s := by
  have hm : (38 : UInt8) ∈ s := by
    have := mem_index s 38
    rw [decide_eq_true h] at this
    simpa [mem] using this
  obtain ⟨c1, c2, _⟩ := cut_index 38 s
  rw [← c2]
  obtain ⟨x, y, rfl, hx⟩ := first_split 38 s hm
  rw [(cutB_some 38 x y hx).2]
  unfold cnt
  rw [List.filter_append, List.length_append, List.filter_cons]
  have : x.filter (· == 38) = [] := by
    rw [List.filter_eq_nil_iff]; intro a ha; simp; rintro rfl; exact hx ha
  rw [this]; simp
end NU
