import Derived.Test.YtibcegbacnjmfaaGreatDoorW1
import Derived.Test.YtibcegbacnjmfaaGreatDoorP
import Derived.Laws.BitsLemmas
namespace Go.Proofs.YtibcegbacnjmfaaGreatDoor
set_option linter.unusedVariables false
set_option linter.unusedSimpArgs false
open Go.RowKit

theorem cell_keep {w w' : World} (h : Fr w w') {p : Addr} {v : Value} (hc : w.cell? p = some v) : w'.cell? p = some v := (Below.cell h (World.block_lt_of_cell? w p hc)).trans hc
/-- netip's two kinds of address lead to two details that differ, in blocks of cells. -/
def Zed (w : World) : Prop :=
  ∃ (a4 a6 : Addr) (c4 c6 : Array Value) (t4 t6 : TypeId), w.cell? ⟨3, 0, none⟩ = some (.pointer (some a4)) ∧ w.cell? ⟨6, 0, none⟩ = some (.pointer (some a6)) ∧ w.cell? ⟨7, 0, none⟩ = some (.pointer none) ∧ a6 ≠ a4 ∧
    w.heap[a4.block]? = some (.cells c4 t4 (0, 0)) ∧ w.heap[a6.block]? = some (.cells c6 t6 (0, 0))
theorem heap_keep {w w' : World} (h : Fr w w') {k : Nat} {o : Obj} (hc : w.heap[k]? = some o) : w'.heap[k]? = some o := by
  have hk : k < w.heap.size := by
    rcases Nat.lt_or_ge k w.heap.size with h' | h'
    · exact h'
    · rw [Array.getElem?_eq_none h'] at hc; cases hc
  exact (h.block k hk).trans hc
theorem Zed.fr {w w' : World} (h : Zed w) (f : Fr w w') : Zed w' := by
  obtain ⟨a4, a6, c4, c6, t4, t6, h1, h2, h0, hn, h3, h4⟩ := h
  exact ⟨a4, a6, c4, c6, t4, t6, cell_keep f h1, cell_keep f h2, cell_keep f h0, hn, heap_keep f h3, heap_keep f h4⟩
/-- The table of the escapes lies as it was laid. -/
structure Tab (w : World) : Prop where
  lt : 0 < w.heap.size
  cell : ∀ c : UInt8, w.cell? ⟨0, c.toNat, none⟩ = some (.int .u8 ((NU.tab c).toNat))
  z : Zed w
theorem Tab.fr {w w' : World} (h : Tab w) (f : Fr w w') : Tab w' :=
  ⟨Nat.lt_of_lt_of_le h.lt f.size, fun c => (Below.cell f (p := ⟨_, _, none⟩) h.lt).trans (h.cell c), h.z.fr f⟩
theorem u8and (a b : UInt8) : bits .and .u8 (a.toNat : Int) (b.toNat : Int) = ((a &&& b).toNat : Int) := by
  rw [(bits_nat .u8 8 (by decide) wraps_u8 a.toNat b.toNat a.toNat_lt b.toNat_lt).1]; simp
theorem u8or (a b : UInt8) : bits .or .u8 (a.toNat : Int) (b.toNat : Int) = ((a ||| b).toNat : Int) := by
  rw [(bits_nat .u8 8 (by decide) wraps_u8 a.toNat b.toNat a.toNat_lt b.toNat_lt).2]; simp
theorem u8ne (a b : UInt8) : ((a.toNat : Int) != (b.toNat : Int)) = (a != b) := by
  rw [Bool.eq_iff_iff]; simp [← UInt8.toNat_inj]; omega
theorem u8beq (a b : UInt8) : ((a.toNat : Int) == (b.toNat : Int)) = (a == b) := by
  rw [Bool.eq_iff_iff]; simp [← UInt8.toNat_inj]; omega
set_option maxHeartbeats 1000000 in
theorem ishex_any (c : UInt8) (w : World) (ht : Tab w) :
    Calls Tryz.prog 73 #[.int .u8 c.toNat] w fun e w' => e = .returned (.bool (decide (0 ≤ NU.hexv c))) ∧ w = w' := by
  have h0 := ht.cell c
  have hc : c.toNat < 256 := c.toNat_lt
  go_enter Tryz.func73, Tryz.ntmps73
  go_wp2
  go_ret
  refine ⟨?_, rfl⟩
  have e1 := u8and (NU.tab c) 128
  have e2 := u8ne (NU.tab c &&& 128) 0
  rw [NU.tab_hex] at e2
  exact congrArg (fun b => Ending.returned (.bool b)) (by rw [← e2, ← e1]; rfl)
set_option maxHeartbeats 1000000 in
theorem should_any (c m : UInt8) (w : World) (ht : Tab w) :
    Calls Tryz.prog 64 #[.int .u8 c.toNat, .int .u8 m.toNat] w fun e w' => e = .returned (.bool (NU.should m c)) ∧ w = w' := by
  have h0 := ht.cell c
  have hc : c.toNat < 256 := c.toNat_lt
  go_enter Tryz.func64, Tryz.ntmps64
  go_wp2
  go_ret
  refine ⟨?_, rfl⟩
  have e1 := u8and (NU.tab c) m
  have e2 := u8beq (NU.tab c &&& m) 0
  exact congrArg (fun b => Ending.returned (.bool b)) (by rw [NU.should, ← e2, ← e1]; rfl)
set_option maxHeartbeats 1000000 in
theorem unhex_any (c : UInt8) (w : World) :
    Calls Tryz.prog 74 #[.int .u8 c.toNat] w fun e w' => e = .returned (.int .u8 (NU.unhex c).toNat) ∧ w = w' := by
  have hc : c.toNat < 256 := c.toNat_lt
  go_enter Tryz.func74, Tryz.ntmps74
  go_wp2
  go_ret
  refine ⟨?_, rfl⟩
  have e := NU.unhex_nat c
  exact congrArg (fun b => Ending.returned (.int .u8 b)) e.symm
end Go.Proofs.YtibcegbacnjmfaaGreatDoor
