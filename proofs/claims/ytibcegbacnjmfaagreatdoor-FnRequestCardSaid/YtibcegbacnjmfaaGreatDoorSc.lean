/-
  (*strings.Builder).String and Len at this translation (after the shelf's own proofs).
-/
import Derived.Test.YtibcegbacnjmfaaGreatDoorSb
set_option linter.unusedVariables false
set_option linter.unusedSimpArgs false
namespace Go.Proofs.YtibcegbacnjmfaaGreatDoor
open Go.RowKit

theorem sbUnsafeNone (W : World) (q : Option Addr) : (Builtin.unsafeString_ #[94, 3] 9 #[.pointer q, .int .i64 0]).run Tryz.prog W = .ok (.string .empty) W :=
  Lib.run_unsafeString_none W _ _ _ q

set_option maxHeartbeats 1000000 in
set_option maxRecDepth 100000 in
theorem sbString_some (B b : Nat) (l : List UInt8) (w : World) (h : ISB B b (Lib.byteCells l) w) (h0 : l ≠ []) :
    Calls Tryz.prog 49 #[.pointer (some ⟨b, 0, none⟩)] w fun e w' => e = .returned (.string ⟨l.toArray⟩) ∧ Below B w w' := by
  obtain ⟨p, hB, v, hbk, hown, hne⟩ : ∃ p, SB B b p (Lib.byteCells l) w := by
    rcases h with h | h
    · exact ⟨_, h⟩
    · exact ⟨_, h⟩
  have hl0 : l.length ≠ 0 := by simpa using h0
  rw [Lib.byteCells_length] at hown
  obtain ⟨g, cap, cur, rfl, hbg, hg, hnc, hcm, hcs, htake⟩ : ∃ g cap cur, v = .slice (some ⟨g, 0, none⟩) l.length cap ∧ B ≤ g ∧ w.heap[g]? = some (.cells cur 5 (0, 0)) ∧ l.length ≤ cap ∧ cap ≤ maxLen ∧ cur.size = cap * 1 ∧ cur.toList.take (l.length * 1) = Lib.byteCells l := by
    rcases hown.2 with ⟨_, hz⟩ | ⟨g, cap, cur, hv, r⟩
    · exact absurd hz hl0
    · exact ⟨g, cap, cur, hv, r⟩
  have c1 : w.drew.cell? ⟨b, 1, none⟩ = some (.slice (some ⟨g, 0, none⟩) l.length cap) := by
    have : w.drew.heap[b]? = some (.cells #[p, .slice (some ⟨g, 0, none⟩) l.length cap] 72 (0, 0)) := hbk
    rw [Lib.cell_of_heap this]; rfl
  have hSD : (Builtin.unsafeSliceData_ #[70] 94 #[.slice (some ⟨g, 0, none⟩) l.length cap]).run Tryz.prog w.drew = .ok (.pointer (some ⟨g, 0, none⟩)) w.drew :=
    Lib.run_unsafeSliceData_row _ _ _ _ _ _ (by omega)
  have hUS : (Builtin.unsafeString_ #[94, 3] 9 #[.pointer (some ⟨g, 0, none⟩), .int .i64 l.length]).run Tryz.prog w.drew = .ok (.string ⟨l.toArray⟩) (w.drew.freeze ⟨g, 0, none⟩ l.length) := by
    refine Lib.run_unsafeString_row w.drew 94 3 9 5 Tryz.underlying94 cellsByte g cur.size (by have hg' : w.drew.heap[g]? = some (.cells cur 5 (0, 0)) := hg; simp [World.shape?, hg']) l h0 (by omega) (by unfold maxLen at hcm; omega) ?_
    intro j x hx
    have := hown.cells (g := g) rfl j (.int .u8 x.toNat) (by simp [Lib.byteCells, hx])
    exact this
  go_enter Tryz.func49, Tryz.ntmps49
  go_wp2
  go_region
  all_goals (go_wp2; go_ret; exact ⟨rfl, Lib.below_freeze (Below.drew (Below.refl B w)) (p := ⟨g, 0, none⟩) hbg _⟩)

set_option maxHeartbeats 2000000 in
set_option maxRecDepth 100000 in
theorem sbString_nil (B b : Nat) (p : Value) (w : World) (hbk : w.heap[b]? = some (.cells #[p, .slice none 0 0] 72 (0, 0))) :
    Calls Tryz.prog 49 #[.pointer (some ⟨b, 0, none⟩)] w fun e w' => e = .returned (.string ⟨#[]⟩) ∧ Below B w w' := by
  have hUS := sbUnsafeNone
  have c1 : w.drew.cell? ⟨b, 1, none⟩ = some (.slice none 0 0) := by
    have : w.drew.heap[b]? = some (.cells #[p, .slice none 0 0] 72 (0, 0)) := hbk
    rw [Lib.cell_of_heap this]; rfl
  have hSD : (Builtin.unsafeSliceData_ #[70] 94 #[.slice none 0 0]).run Tryz.prog w.drew = .ok (.pointer none) w.drew := rfl
  go_enter Tryz.func49, Tryz.ntmps49
  go_wp2
  go_region
  all_goals (go_wp2; go_ret; exact ⟨rfl, Below.drew (Below.refl B w)⟩)

set_option maxHeartbeats 2000000 in
set_option maxRecDepth 100000 in
theorem sbString_noroom (B b g : Nat) (p : Value) (cur : Array Value) (w : World) (hBw : B ≤ w.heap.size) (hbk : w.heap[b]? = some (.cells #[p, .slice (some ⟨g, 0, none⟩) 0 0] 72 (0, 0))) (hg : w.heap[g]? = some (.cells cur 5 (0, 0))) :
    Calls Tryz.prog 49 #[.pointer (some ⟨b, 0, none⟩)] w fun e w' => e = .returned (.string ⟨#[]⟩) ∧ Below B w w' := by
  have hUS := sbUnsafeNone
  have hlt : b < w.heap.size := by
    rcases Nat.lt_or_ge b w.heap.size with h' | h'
    · exact h'
    · simp [Array.getElem?_eq_none h'] at hbk
  have c1 : w.drew.cell? ⟨b, 1, none⟩ = some (.slice (some ⟨g, 0, none⟩) 0 0) := by
    have : w.drew.heap[b]? = some (.cells #[p, .slice (some ⟨g, 0, none⟩) 0 0] 72 (0, 0)) := hbk
    rw [Lib.cell_of_heap this]; rfl
  have hSD : (Builtin.unsafeSliceData_ #[70] 94 #[.slice (some ⟨g, 0, none⟩) 0 0]).run Tryz.prog w.drew = .ok (.pointer (some ⟨w.drew.heap.size, 0, none⟩)) (w.drew.alloc (.view ⟨g, 0, none⟩ 5)) :=
    Lib.run_unsafeSliceData_zero w.drew _ _ 5 Tryz.underlying94 ⟨g, 0, none⟩ 0 (5, cur.size) (by have hg' : w.drew.heap[g]? = some (.cells cur 5 (0, 0)) := hg; simp [World.shape?, hg'])
  have c2 : (w.drew.alloc (.view ⟨g, 0, none⟩ 5)).cell? ⟨b, 1, none⟩ = some (.slice (some ⟨g, 0, none⟩) 0 0) := by
    have : (w.drew.alloc (.view ⟨g, 0, none⟩ 5)).heap[b]? = _ := (Lib.alloc_old w.drew _ b hlt).trans hbk
    rw [Lib.cell_of_heap this]; rfl
  have c3 : (w.alloc (.view ⟨g, 0, none⟩ 5)).drew.cell? ⟨b, 1, none⟩ = some (.slice (some ⟨g, 0, none⟩) 0 0) := c2
  have c0 : w.cell? ⟨b, 1, none⟩ = some (.slice (some ⟨g, 0, none⟩) 0 0) := c1
  go_enter Tryz.func49, Tryz.ntmps49
  go_wp2
  go_region
  all_goals (go_wp2; go_ret; exact ⟨rfl, (Below.drew (Below.refl B w)).alloc hBw _⟩)

set_option maxHeartbeats 2000000 in
set_option maxRecDepth 100000 in
theorem sbString_room (B b g cap : Nat) (p : Value) (w : World) (hc0 : cap ≠ 0) (hbk : w.heap[b]? = some (.cells #[p, .slice (some ⟨g, 0, none⟩) 0 cap] 72 (0, 0))) :
    Calls Tryz.prog 49 #[.pointer (some ⟨b, 0, none⟩)] w fun e w' => e = .returned (.string ⟨#[]⟩) ∧ Below B w w' := by
  have hUS := sbUnsafeNone
  have c1 : w.drew.cell? ⟨b, 1, none⟩ = some (.slice (some ⟨g, 0, none⟩) 0 cap) := by
    have : w.drew.heap[b]? = some (.cells #[p, .slice (some ⟨g, 0, none⟩) 0 cap] 72 (0, 0)) := hbk
    rw [Lib.cell_of_heap this]; rfl
  have hSD : (Builtin.unsafeSliceData_ #[70] 94 #[.slice (some ⟨g, 0, none⟩) 0 cap]).run Tryz.prog w.drew = .ok (.pointer (some ⟨g, 0, none⟩)) w.drew :=
    Lib.run_unsafeSliceData_row _ _ _ _ _ _ hc0
  clear hc0
  go_enter Tryz.func49, Tryz.ntmps49
  go_wp2
  go_region
  all_goals (go_wp2; go_ret; exact ⟨rfl, Below.drew (Below.refl B w)⟩)

theorem sbString (B b : Nat) (l : List UInt8) (w : World) (h : ISB B b (Lib.byteCells l) w) (hBw : B ≤ w.heap.size) :
    Calls Tryz.prog 49 #[.pointer (some ⟨b, 0, none⟩)] w fun e w' => e = .returned (.string ⟨l.toArray⟩) ∧ Below B w w' := by
  by_cases h0 : l = []
  · subst h0
    obtain ⟨p, hB, v, hbk, hown, hne⟩ : ∃ p, SB B b p [] w := by
      rcases h with h | h
      · exact ⟨_, h⟩
      · exact ⟨_, h⟩
    rcases hown.2 with ⟨rfl, _⟩ | ⟨g, cap, cur, rfl, hbg, hg, _, _, _, _⟩
    · exact sbString_nil B b p w hbk
    · by_cases hc0 : cap = 0
      · subst hc0
        exact sbString_noroom B b g p cur w hBw hbk hg
      · exact sbString_room B b g cap p w hc0 hbk
  · exact sbString_some B b l w h h0

set_option maxHeartbeats 1000000 in
set_option maxRecDepth 100000 in
theorem sbLen (B b : Nat) (bs : List Value) (w : World) (h : ISB B b bs w) :
    Calls Tryz.prog 47 #[.pointer (some ⟨b, 0, none⟩)] w fun e w' => e = .returned (.int .i64 bs.length) ∧ w = w' := by
  obtain ⟨p, hB, v, hbk, hown, hne⟩ : ∃ p, SB B b p bs w := by
    rcases h with h | h
    · exact ⟨_, h⟩
    · exact ⟨_, h⟩
  obtain ⟨ao, cap, rfl⟩ : ∃ ao cap, v = .slice ao bs.length cap := by
    rcases hown.2 with ⟨hv, h0⟩ | ⟨g, cap, cur, hv, _⟩
    · exact ⟨none, 0, by rw [hv, h0]⟩
    · exact ⟨_, _, hv⟩
  have c1 : w.cell? ⟨b, 1, none⟩ = some (.slice ao bs.length cap) := by rw [Lib.cell_of_heap hbk]; rfl
  go_enter Tryz.func47, Tryz.ntmps47
  go_wp2
  go_ret
  exact ⟨rfl, rfl⟩
end Go.Proofs.YtibcegbacnjmfaaGreatDoor
