/-
  Plain Lean: how many values the reference keeps, and how long they are.
-/
import Derived.Test.YtlholchmgheemaaDoorP17
namespace NU
set_option linter.unusedVariables false
set_option linter.unusedSimpArgs false
theorem total_nil : total [] = 0 := rfl
theorem total_cons (p : Bytes × List Bytes) (r : PL) : total (p :: r) = p.2.length + total r := by simp [total]
theorem total_qput (k v : Bytes) (M : QM) : total (qput k v M) = total M + 1 := by
  unfold qput
  induction M with
  | nil => simp [upd, total]
  | cons p r ih =>
    unfold upd
    split
    · rw [total_cons, total_cons, ih]; omega
    · split
      · rw [total_cons, total_cons]; simp; omega
      · rw [total_cons, total_cons]; simp; omega
theorem total_putAll (k : Bytes) (vs : List Bytes) (M : QM) : total (putAll k vs M) = total M + vs.length := by
  unfold putAll
  induction vs generalizing M with
  | nil => simp
  | cons v r ih => rw [List.foldl_cons, ih, total_qput, List.length_cons]; omega
theorem total_specGo (l : PL) (M : QM) : total (specGo l M) ≤ total M + total l := by
  induction l generalizing M with
  | nil => simp [specGo]
  | cons p r ih =>
    rw [specGo, total_cons]
    have := ih (specStep p r M)
    unfold specStep at this ⊢
    split
    · rename_i h; rw [if_pos h, total_putAll] at this; omega
    · rename_i h; rw [if_neg h] at this; omega
theorem total_specPairs (l : PL) : total (specPairs l) ≤ 2000 := by
  unfold specPairs
  split
  · rename_i h; have := total_specGo l []; rw [total_nil] at this; omega
  · rw [total_nil]; omega
def SmallM (M : PL) : Prop := ∀ p ∈ M, p.1.length ≤ 2147483647 ∧ ∀ x ∈ p.2, x.length ≤ 2147483647
theorem small_qput (k v : Bytes) (M : QM) (hk : k.length ≤ 2147483647) (hv : v.length ≤ 2147483647) (h : SmallM M) : SmallM (qput k v M) := by
  unfold qput
  induction M with
  | nil =>
    intro p hp
    simp [upd] at hp
    subst hp
    exact ⟨hk, fun x hx => by simp at hx; rw [hx]; exact hv⟩
  | cons q r ih =>
    have hq := h q (by simp)
    have hr : SmallM r := fun p hp => h p (by simp [hp])
    unfold upd
    intro p hp
    split at hp
    · rcases List.mem_cons.1 hp with rfl | hp
      · exact hq
      · exact ih hr p hp
    · split at hp
      · rcases List.mem_cons.1 hp with rfl | hp
        · refine ⟨hk, fun x hx => ?_⟩
          simp at hx
          rcases hx with hx | rfl
          · exact hq.2 x hx
          · exact hv
        · exact hr p hp
      · rcases List.mem_cons.1 hp with rfl | hp
        · exact ⟨hk, fun x hx => by simp at hx; rw [hx]; exact hv⟩
        · exact h p hp
theorem small_putAll (k : Bytes) (vs : List Bytes) (M : QM) (hk : k.length ≤ 2147483647) (hv : ∀ v ∈ vs, v.length ≤ 2147483647) (h : SmallM M) : SmallM (putAll k vs M) := by
  unfold putAll
  induction vs generalizing M with
  | nil => exact h
  | cons v r ih => exact ih _ (fun x hx => hv x (by simp [hx])) (small_qput _ _ _ hk (hv v (by simp)) h)
theorem small_specGo (l : PL) (M : QM) (hl : SmallM l) (h : SmallM M) : SmallM (specGo l M) := by
  induction l generalizing M with
  | nil => exact h
  | cons p r ih =>
    rw [specGo]
    refine ih _ (fun q hq => hl q (by simp [hq])) ?_
    unfold specStep
    split
    · exact small_putAll _ _ _ (hl p (by simp)).1 (hl p (by simp)).2 h
    · exact h
theorem small_specPairs (l : PL) (hl : SmallM l) : SmallM (specPairs l) := by
  unfold specPairs
  split
  · exact small_specGo l [] hl (fun _ h => by cases h)
  · exact fun _ h => by cases h
end NU
