import Derived.Test.YtlholchmgheemaaDoorW57
import Derived.Test.YtlholchmgheemaaDoorP17
import Derived.Test.YtlholchmgheemaaDoorSort
import Derived.Sort.OwnSorted
import Derived.Sort.KeysCollected
import Derived.Lib.OwnBridge
import Derived.Maps.OwnSet
namespace Go.Proofs.YtlholchmgheemaaDoor
set_option linter.unusedVariables false
set_option linter.unusedSimpArgs false
open Go.RowKit Go.Maps Go.Sort

theorem lt_list : ∀ (a b : List UInt8), NU.lt a b = true ↔ a < b
  | _, [] => by simp [NU.lt]
  | [], b :: y => by simp [NU.lt]
  | a :: x, b :: y => by
    rw [NU.lt, List.cons_lt_cons_iff, ← lt_list x y]
    simp
theorem srt_sorted {α : Type} (S : List (List UInt8 × α)) (h : NU.Srt S) : (S.map (·.1)).mergeSort (fun x y => decide (x ≤ y)) = S.map (·.1) := by
  refine List.mergeSort_of_pairwise ?_
  rw [List.pairwise_map]
  refine h.imp (fun {p q} hpq => ?_)
  refine decide_eq_true ?_
  show ¬ q.1 < p.1
  rw [← lt_list, NU.lt_asymm _ _ hpq]; simp
theorem keys_dmap (S : SL) : strKeys (dmap S) = S.map (·.1) := by
  unfold strKeys dmap dents; simp [Go.strOf]
theorem keys_sorted {S : SL} (h : NU.Srt S) {ks : List (List UInt8)} (hp : ks.Perm (strKeys (dmap S))) : ks.mergeSort (fun x y => decide (x ≤ y)) = S.map (·.1) ∧ ks.length = S.length := by
  rw [keys_dmap] at hp
  refine ⟨?_, by have := hp.length_eq; simpa using this⟩
  rw [← srt_sorted S h]
  exact mergeSort_of_perm hp
theorem make_strs (n : Nat) (hn : n ≤ 1000000) (w : World) :
    (Instr.makeSlice 38 (.int .i64 (n : Int)) (.int .i64 (n : Int))).run Tryd.prog w = .ok (.slice (some ⟨w.heap.size, 0, none⟩) n n) (w.alloc (.cells (Array.replicate n (.string ⟨#[]⟩)) 9)) := by
  obtain ⟨i0, hi, hz0, hz1, hz2⟩ := info_parts infoStr
  have hr := run_make (P := Tryd.prog) w 38 9 i0 (.string ⟨#[]⟩) Tryd.underlying38 hi hz0 .i64 .i64 n n (by omega) (Int.le_refl _) (by rw [hz2]; omega) (by omega)
  simp only [Int.toNat_natCast, hz1, Nat.mul_one] at hr
  rw [hr]
  have e : madeCells (Value.cells (.string ⟨#[]⟩)) n = Array.replicate n (.string ⟨#[]⟩) := by
    apply Array.ext
    · simp [madeCells]
    · intro j h1 h2
      have e1 : j % 1 = 0 := by omega
      simp [madeCells, Value.cells, e1]
  rw [e]
theorem SRow.made (B n : Nat) (w : World) (hB : B ≤ w.heap.size) (hn : n ≤ 1000000) : SRow B (w.alloc (.cells (Array.replicate n (.string ⟨#[]⟩)) 9)) (.slice (some ⟨w.heap.size, 0, none⟩) n n) (List.replicate n []) := by
  have hb := Blk.new w 9 (Array.replicate n (.string ⟨#[]⟩))
  refine ⟨by simp [sCells], .inr ⟨w.heap.size, n, _, by simp, hB, hb, by simp, by unfold maxLen; omega, by simp, ?_⟩⟩
  simp [sCells]
  exact .inr rfl
theorem set_keys (ks : List (List UInt8)) (m : Nat) (x : ByteArray) : (sCells (ks ++ List.replicate (m + 1) [])).set ks.length (.string x) = sCells (ks ++ [L x] ++ List.replicate m []) := by
  have hl : (sCells ks).length = ks.length := sCells_len ks
  unfold sCells at hl ⊢
  rw [List.map_append, List.map_append, List.map_append, List.set_append_right _ _ (by omega), hl, Nat.sub_self, List.replicate_succ]
  simp [mk_L]
/-- A key is written behind the keys that are there. -/
theorem SRow.key {B g N : Nat} {w : World} {ks : List (List UInt8)} {m : Nat} (h : SRow B w (.slice (some ⟨g, 0, none⟩) N N) (ks ++ List.replicate (m + 1) [])) (hN : N = ks.length + (m + 1)) (x : ByteArray) :
    SRow B (w.setCell ⟨g, ks.length, none⟩ (.string x)) (.slice (some ⟨g, 0, none⟩) N N) (ks ++ [L x] ++ List.replicate m []) := by
  have e1 : (ks ++ List.replicate (m + 1) ([] : List UInt8)).length = N := by simp [hN]
  have e2 : (ks ++ [L x] ++ List.replicate m ([] : List UInt8)).length = N := by simp [hN]
  unfold SRow at h ⊢
  rw [e1] at h
  rw [e2, ← set_keys]
  exact ownsRow_set h ks.length (.string x) (by rw [sCells_len, e1]; omega)
theorem sCells_enc (l : List (List UInt8)) : sCells l = l.map encStr := by
  unfold sCells
  refine List.map_congr_left (fun s _ => ?_)
  rfl
/-- The keys, sorted. -/
theorem sort_keys (B g N : Nat) (w : World) (ks : List (List UInt8)) (hN : N = ks.length) (hn : N ≤ 1000000) (h : Hid (SRow B w (.slice (some ⟨g, 0, none⟩) N N) ks)) :
    Calls Tryd.prog 34 #[.slice (some ⟨g, 0, none⟩) N N] w fun e w' =>
      e = .returned (.tuple #[]) ∧ SRow B w' (.slice (some ⟨g, 0, none⟩) N N) (ks.mergeSort fun x y => decide (x ≤ y)) ∧ w.grownBy w' (some g) := by
  subst hN
  have h' := h.out
  unfold SRow at h'
  rw [sCells_enc] at h'
  rcases h'.2 with ⟨hv, _⟩ | ⟨g', cap', cur, hv, hbase, hb, h1, h2, h3, h4⟩
  · cases hv
  · cases hv
    have hlt : g < w.heap.size := (Array.getElem?_eq_some_iff.1 hb).1
    have hH : Holds encStr w g 0 ks.toArray := holds_of_block hb (by rw [Nat.mul_one] at h4; exact h4)
    refine (sort_strings g 0 ks.length ks w hH hlt (by unfold maxLen at h2; omega)).mono ?_
    rintro e w' ⟨rfl, n, os, rfl⟩
    refine ⟨rfl, ?_, grownBy_sorted _⟩
    unfold SRow
    rw [sCells_enc, List.length_mergeSort]
    exact ownsRow_sorted (List.length_mergeSort _) hbase hb h1 h2 h3
end Go.Proofs.YtlholchmgheemaaDoor
