import Derived.Test.YtlholchmgheemaaDoorW3
import Derived.Test.YtlholchmgheemaaDoorP
import Derived.Laws.BitsLemmas
namespace Go.Proofs.YtlholchmgheemaaDoor
set_option linter.unusedVariables false
set_option linter.unusedSimpArgs false
open Go.RowKit

/-- The table of the escapes lies as it was laid. -/
structure Tab (w : World) : Prop where
  lt : 0 < w.heap.size
  cell : ∀ c : UInt8, w.cell? ⟨0, c.toNat, none⟩ = some (.int .u8 ((NU.tab c).toNat))
theorem Tab.fr {w w' : World} (h : Tab w) (f : Fr w w') : Tab w' :=
  ⟨Nat.lt_of_lt_of_le h.lt f.size, fun c => (Below.cell f (p := ⟨_, _, none⟩) h.lt).trans (h.cell c)⟩
theorem u8and (a b : UInt8) : bits .and .u8 (a.toNat : Int) (b.toNat : Int) = ((a &&& b).toNat : Int) := by
  rw [(bits_nat .u8 8 (by decide) wraps_u8 a.toNat b.toNat a.toNat_lt b.toNat_lt).1]; simp
theorem u8or (a b : UInt8) : bits .or .u8 (a.toNat : Int) (b.toNat : Int) = ((a ||| b).toNat : Int) := by
  rw [(bits_nat .u8 8 (by decide) wraps_u8 a.toNat b.toNat a.toNat_lt b.toNat_lt).2]; simp
theorem u8ne (a b : UInt8) : ((a.toNat : Int) != (b.toNat : Int)) = (a != b) := by
  rw [Bool.eq_iff_iff]; simp [← UInt8.toNat_inj]; omega
theorem u8beq (a b : UInt8) : ((a.toNat : Int) == (b.toNat : Int)) = (a == b) := by
  rw [Bool.eq_iff_iff]; simp [← UInt8.toNat_inj]; omega
set_option maxHeartbeats 1000000 in
theorem ishex_any (c : UInt8) (w : World) (ht : Tab w) :
    Calls Tryd.prog 65 #[.int .u8 c.toNat] w fun e w' => e = .returned (.bool (decide (0 ≤ NU.hexv c))) ∧ w = w' := by
  have h0 := ht.cell c
  have hc : c.toNat < 256 := c.toNat_lt
  go_enter Tryd.func65, Tryd.ntmps65
  go_wp2
  go_ret
  refine ⟨?_, rfl⟩
  have e1 := u8and (NU.tab c) 128
  have e2 := u8ne (NU.tab c &&& 128) 0
  rw [NU.tab_hex] at e2
  exact congrArg (fun b => Ending.returned (.bool b)) (by rw [← e2, ← e1]; rfl)
set_option maxHeartbeats 1000000 in
theorem should_any (c m : UInt8) (w : World) (ht : Tab w) :
    Calls Tryd.prog 50 #[.int .u8 c.toNat, .int .u8 m.toNat] w fun e w' => e = .returned (.bool (NU.should m c)) ∧ w = w' := by
  have h0 := ht.cell c
  have hc : c.toNat < 256 := c.toNat_lt
  go_enter Tryd.func50, Tryd.ntmps50
  go_wp2
  go_ret
  refine ⟨?_, rfl⟩
  have e1 := u8and (NU.tab c) m
  have e2 := u8beq (NU.tab c &&& m) 0
  exact congrArg (fun b => Ending.returned (.bool b)) (by rw [NU.should, ← e2, ← e1]; rfl)
set_option maxHeartbeats 1000000 in
theorem unhex_any (c : UInt8) (w : World) :
    Calls Tryd.prog 66 #[.int .u8 c.toNat] w fun e w' => e = .returned (.int .u8 (NU.unhex c).toNat) ∧ w = w' := by
  have hc : c.toNat < 256 := c.toNat_lt
  go_enter Tryd.func66, Tryd.ntmps66
  go_wp2
  go_ret
  refine ⟨?_, rfl⟩
  have e := NU.unhex_nat c
  exact congrArg (fun b => Ending.returned (.int .u8 b)) e.symm
end Go.Proofs.YtlholchmgheemaaDoor
