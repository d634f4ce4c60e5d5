/-
  Plain Lean: what the reference keeps of pairs, and how values are written.
-/
import Derived.Test.YtlholchmgheemaaDoorP16
namespace NU
set_option linter.unusedVariables false
set_option linter.unusedSimpArgs false
abbrev PL := List (Bytes × List Bytes)
def total (l : PL) : Nat := (l.map (fun p => p.2.length)).sum
def lastOf (p : Bytes × List Bytes) (r : PL) : Bool := (!p.2.isEmpty) && r.all (fun q => q.1 != p.1 || q.2.isEmpty)
def putAll (k : Bytes) (vs : List Bytes) (M : QM) : QM := vs.foldl (fun M v => qput k v M) M
def specStep (p : Bytes × List Bytes) (r : PL) (M : QM) : QM := if lastOf p r = true then putAll p.1 p.2 M else M
def specGo : PL → QM → QM
  | [], M => M
  | p :: r, M => specGo r (specStep p r M)
def specPairs (l : PL) : QM := if l.length ≤ 2000 ∧ total l ≤ 2000 then specGo l [] else []
theorem total_take (l : PL) (k : Nat) (h : k < l.length) : total (l.take (k + 1)) = total (l.take k) + l[k].2.length := by
  unfold total
  rw [List.take_succ_eq_append_getElem h, List.map_append, List.sum_append]; simp
theorem total_drop (l : PL) (k : Nat) : total l = total (l.take k) + total (l.drop k) := by
  unfold total
  rw [← List.sum_append, ← List.map_append, List.take_append_drop]
theorem total_le (l : PL) (k : Nat) : total (l.take k) ≤ total l := by have := total_drop l k; omega
theorem specGo_drop (l : PL) (k : Nat) (h : k < l.length) (M : QM) : specGo (l.drop k) M = specGo (l.drop (k + 1)) (specStep l[k] (l.drop (k + 1)) M) := by
  rw [List.drop_eq_getElem_cons h, specGo]
theorem putAll_take (k : Bytes) (vs : List Bytes) (j : Nat) (h : j < vs.length) (M : QM) : putAll k (vs.take (j + 1)) M = qput k vs[j] (putAll k (vs.take j) M) := by
  unfold putAll
  rw [List.take_succ_eq_append_getElem h, List.foldl_append]; rfl
theorem srt_putAll (k : Bytes) (vs : List Bytes) (M : QM) (h : Srt M) : Srt (putAll k vs M) := by
  unfold putAll
  induction vs generalizing M with
  | nil => exact h
  | cons v r ih => exact ih _ (srt_upd _ _ _ h)
theorem all_take_succ {α : Type} (f : α → Bool) (l : List α) (k : Nat) (h : k < l.length) : (l.take (k + 1)).all f = ((l.take k).all f && f l[k]) := by
  rw [List.take_succ_eq_append_getElem h, List.all_append]; simp
def lastUp (p : Bytes × List Bytes) (r : PL) (x : Nat) : Bool := (!p.2.isEmpty) && (r.take x).all (fun q => q.1 != p.1 || q.2.isEmpty)
theorem lastUp_zero (p : Bytes × List Bytes) (r : PL) : lastUp p r 0 = !p.2.isEmpty := by simp [lastUp]
theorem lastUp_succ (p : Bytes × List Bytes) (r : PL) (x : Nat) (h : x < r.length) : lastUp p r (x + 1) = (lastUp p r x && (r[x].1 != p.1 || r[x].2.isEmpty)) := by
  unfold lastUp; rw [all_take_succ _ _ _ h, Bool.and_assoc]
theorem lastUp_all (p : Bytes × List Bytes) (r : PL) (x : Nat) (h : r.length ≤ x) : lastUp p r x = lastOf p r := by
  unfold lastUp lastOf; rw [List.take_of_length_le h]
/-- How a setting is written behind others. -/
def encw (a k v : Bytes) : Bytes := (if a = [] then a else a ++ [38]) ++ (esc 32 k ++ [61] ++ esc 32 v)
def encv (a k : Bytes) (vs : List Bytes) : Bytes := vs.foldl (fun a v => encw a k v) a
def encq (M : PL) : Bytes := M.foldl (fun a p => encv a p.1 p.2) []
end NU
