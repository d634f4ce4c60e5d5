import Derived.Test.YtibcegbacnjmfaaGreatDoorW21
import Derived.Test.YtibcegbacnjmfaaGreatDoorW47
import Derived.Laws.Rows
import Derived.Laws.NewBlocks
import Derived.IntWalk
import Derived.WalkKit
import Derived.RegionTactic
import Derived.Deep.Draws
import Derived.Deep.RegionWith
import Derived.Deep.QuietTactic
import Derived.BigQuiet
import Derived.Outline
import Derived.LaidEql
namespace Go.Proofs.YtibcegbacnjmfaaGreatDoor
set_option linter.unusedVariables false
set_option linter.unusedSimpArgs false
open Go.RowKit

/-- Eight bytes as one number. -/
def beV (z0 z1 z2 z3 z4 z5 z6 z7 : Int) : Int :=
  bits .or .u64 (bits .or .u64 (bits .or .u64 (bits .or .u64 (bits .or .u64 (bits .or .u64 (bits .or .u64 z7 (z6 * 256)) (z5 * 65536)) (z4 * 16777216)) (z3 * 4294967296)) (z2 * 1099511627776)) (z1 * 281474976710656)) (z0 * 72057594037927936)
set_option maxHeartbeats 8000000 in
set_option maxRecDepth 100000 in
theorem beUint64_any (g o n c : Nat) (z0 z1 z2 z3 z4 z5 z6 z7 : Int) (w : World) (hn : 8 ≤ n) (h0 : 0 ≤ z0 ∧ z0 ≤ 255) (h1 : 0 ≤ z1 ∧ z1 ≤ 255) (h2 : 0 ≤ z2 ∧ z2 ≤ 255) (h3 : 0 ≤ z3 ∧ z3 ≤ 255) (h4 : 0 ≤ z4 ∧ z4 ≤ 255) (h5 : 0 ≤ z5 ∧ z5 ≤ 255) (h6 : 0 ≤ z6 ∧ z6 ≤ 255) (h7 : 0 ≤ z7 ∧ z7 ≤ 255)
    (c0 : w.cell? ⟨g, o, none⟩ = some (.int .u8 z0)) (c1 : w.cell? ⟨g, o + 1, none⟩ = some (.int .u8 z1)) (c2 : w.cell? ⟨g, o + 2, none⟩ = some (.int .u8 z2)) (c3 : w.cell? ⟨g, o + 3, none⟩ = some (.int .u8 z3))
    (c4 : w.cell? ⟨g, o + 4, none⟩ = some (.int .u8 z4)) (c5 : w.cell? ⟨g, o + 5, none⟩ = some (.int .u8 z5)) (c6 : w.cell? ⟨g, o + 6, none⟩ = some (.int .u8 z6)) (c7 : w.cell? ⟨g, o + 7, none⟩ = some (.int .u8 z7)) :
    Calls Tryz.prog 104 #[.slice (some ⟨g, o, none⟩) n c] w fun e w' => e = .returned (.int .u64 (beV z0 z1 z2 z3 z4 z5 z6 z7)) ∧ ∃ m, w' = w.drewN m := by
  have q0 : 0 < n := by omega
  have q1 : (1 : Int) < (n : Int) := by omega
  have q2 : (2 : Int) < (n : Int) := by omega
  have q3 : (3 : Int) < (n : Int) := by omega
  have q4 : (4 : Int) < (n : Int) := by omega
  have q5 : (5 : Int) < (n : Int) := by omega
  have q6 : (6 : Int) < (n : Int) := by omega
  have q7 : (7 : Int) < (n : Int) := by omega
  go_enter Tryz.func104, Tryz.ntmps104
  go_wp2
  go_quiet (fail)
  go_wp2
  go_ret
  exact ⟨rfl, _, rfl⟩
/-- Block g holds sixteen bytes. -/
def B16 (w : World) (g : Nat) : Prop := ∃ cs : Array Value, Blk w g 146 cs ∧ cs.size = 16 ∧ ∀ j, j < 16 → ∃ z : Int, cs[j]? = some (.int .u8 z) ∧ 0 ≤ z ∧ z ≤ 255
theorem ip_info : (Tryz.prog.info? 121).map (·.size) = some 3 := by kernel_rfl
theorem arr_info : (Tryz.prog.info? 146).map (·.size) = some 16 := by kernel_rfl
theorem ip_one (hi lo : Int) (a : Addr) : (#[.int .u64 hi, .int .u64 lo, .pointer (some a)] : Array Value).all (·.oneCell') = true := by simp [Value.oneCell']
section
variable {ops : Array Oper} {rest : List Oper} {o : Oper} {a : Act} {w : World} {Q : Exit → Act → World → Prop}
/-- An address is loaded whole. -/
theorem wpList_load_ip (hgd : o.guard = none) (x : Operand) (ho : o.op = .load 121 x) (g : Nat) (hx : a.eval x = .pointer (some ⟨g, 0, none⟩)) (t : TypeId) (cs : Array Value) (hb : Hid (Blk w g t cs)) (hs : cs.size = 3)
    (h : wpList Tryz.prog ops Q rest (a.put o.dst (.agg cs)) w) : wpList Tryz.prog ops Q (o :: rest) a w :=
  wpList_load_row hgd _ x ho g hx t cs (0, 0) _ hb.out Tryz.underlying121 rfl (by rw [ip_info, hs]) h
/-- .. is stored whole. -/
theorem wpList_store_ip (hgd : o.guard = none) (x y : Operand) (ho : o.op = .store 121 x y) (g : Nat) (cells : Array Value) (hx : a.eval x = .pointer (some ⟨g, 0, none⟩)) (hy : a.eval y = .agg cells)
    (t : TypeId) (old : Array Value) (hb : Hid (Blk w g t old)) (hs : cells.size = 3) (hold : old.size = 3) (h1 : cells.all (·.oneCell') = true)
    (h : wpList Tryz.prog ops Q rest (a.put o.dst undef) (w.setRow g cells)) : wpList Tryz.prog ops Q (o :: rest) a w :=
  wpList_store_row hgd _ x y ho g cells hx hy t old hb.out (by rw [ip_info, hs]) (by rw [hold, hs]) h1 h
/-- Sixteen bytes are loaded whole. -/
theorem wpList_load_16 (hgd : o.guard = none) (x : Operand) (ho : o.op = .load 146 x) (g : Nat) (hx : a.eval x = .pointer (some ⟨g, 0, none⟩)) (t : TypeId) (cs : Array Value) (hb : Hid (Blk w g t cs)) (hs : cs.size = 16)
    (h : wpList Tryz.prog ops Q rest (a.put o.dst (.agg cs)) w) : wpList Tryz.prog ops Q (o :: rest) a w :=
  wpList_load_row hgd _ x ho g hx t cs (0, 0) _ hb.out Tryz.underlying146 rfl (by rw [arr_info, hs]) h
end
/-- The result is an address in a cell of the call's own. -/
theorem ret_ip {fn : Func} {p : Tmp} (h : fn.results = #[.cell p 121]) (tmps : Array Value) (w : World) (g : Nat) (hp : tmps.getD p undef = .pointer (some ⟨g, 0, none⟩)) (t : TypeId) (cs : Array Value) (hb : Blk w g t cs) (hs : cs.size = 3) :
    (results fn tmps).run Tryz.prog w = .ok (.agg cs) w :=
  results_cell_row h tmps w g t cs (0, 0) _ hp hb Tryz.underlying121 rfl (by rw [ip_info, hs])
set_option maxHeartbeats 8000000 in
set_option maxRecDepth 100000 in
theorem AddrFrom16_any (z0 z1 z2 z3 z4 z5 z6 z7 z8 z9 z10 z11 z12 z13 z14 z15 : Int) (a6 : Addr) (w : World) (ha : w.cell? ⟨6, 0, none⟩ = some (.pointer (some a6)))
    (h0 : 0 ≤ z0 ∧ z0 ≤ 255) (h1 : 0 ≤ z1 ∧ z1 ≤ 255) (h2 : 0 ≤ z2 ∧ z2 ≤ 255) (h3 : 0 ≤ z3 ∧ z3 ≤ 255) (h4 : 0 ≤ z4 ∧ z4 ≤ 255) (h5 : 0 ≤ z5 ∧ z5 ≤ 255) (h6 : 0 ≤ z6 ∧ z6 ≤ 255) (h7 : 0 ≤ z7 ∧ z7 ≤ 255)
    (h8 : 0 ≤ z8 ∧ z8 ≤ 255) (h9 : 0 ≤ z9 ∧ z9 ≤ 255) (h10 : 0 ≤ z10 ∧ z10 ≤ 255) (h11 : 0 ≤ z11 ∧ z11 ≤ 255) (h12 : 0 ≤ z12 ∧ z12 ≤ 255) (h13 : 0 ≤ z13 ∧ z13 ≤ 255) (h14 : 0 ≤ z14 ∧ z14 ≤ 255) (h15 : 0 ≤ z15 ∧ z15 ≤ 255) :
    Calls Tryz.prog 101 #[.agg #[.int .u8 z0, .int .u8 z1, .int .u8 z2, .int .u8 z3, .int .u8 z4, .int .u8 z5, .int .u8 z6, .int .u8 z7, .int .u8 z8, .int .u8 z9, .int .u8 z10, .int .u8 z11, .int .u8 z12, .int .u8 z13, .int .u8 z14, .int .u8 z15]] w
      fun e w' => (∃ hi lo, e = .returned (.agg #[.int .u64 hi, .int .u64 lo, .pointer (some a6)])) ∧ Fr w w' := by
  obtain ⟨hi, hhi⟩ : ∃ hi, hi = beV z0 z1 z2 z3 z4 z5 z6 z7 := ⟨_, rfl⟩
  obtain ⟨lo, hlo⟩ : ∃ lo, lo = beV z8 z9 z10 z11 z12 z13 z14 z15 := ⟨_, rfl⟩
  obtain ⟨cs, hcs⟩ : ∃ cs : Array Value, cs = #[.int .u8 z0, .int .u8 z1, .int .u8 z2, .int .u8 z3, .int .u8 z4, .int .u8 z5, .int .u8 z6, .int .u8 z7, .int .u8 z8, .int .u8 z9, .int .u8 z10, .int .u8 z11, .int .u8 z12, .int .u8 z13, .int .u8 z14, .int .u8 z15] := ⟨_, rfl⟩
  have C1 : Hid (∀ W, Hid (Blk W w.heap.size 146 cs) → Calls Tryz.prog 104 #[.slice (some ⟨w.heap.size, 0, none⟩) 8 16] W fun e w' => e = .returned (.int .u64 hi) ∧ ∃ m, w' = W.drewN m) := by
    show ∀ W, _ → _
    intro W hw
    have hw := hw.out
    rw [hcs] at hw
    rw [hhi]
    exact beUint64_any w.heap.size 0 8 16 z0 z1 z2 z3 z4 z5 z6 z7 W (by omega) h0 h1 h2 h3 h4 h5 h6 h7 (hw.cell 0) (hw.cell 1) (hw.cell 2) (hw.cell 3) (hw.cell 4) (hw.cell 5) (hw.cell 6) (hw.cell 7)
  have C2 : Hid (∀ W, Hid (Blk W w.heap.size 146 cs) → Calls Tryz.prog 104 #[.slice (some ⟨w.heap.size, 8, none⟩) 8 8] W fun e w' => e = .returned (.int .u64 lo) ∧ ∃ m, w' = W.drewN m) := by
    show ∀ W, _ → _
    intro W hw
    have hw := hw.out
    rw [hcs] at hw
    rw [hlo]
    exact beUint64_any w.heap.size 8 8 8 z8 z9 z10 z11 z12 z13 z14 z15 W (by omega) h8 h9 h10 h11 h12 h13 h14 h15 (hw.cell 8) (hw.cell 9) (hw.cell 10) (hw.cell 11) (hw.cell 12) (hw.cell 13) (hw.cell 14) (hw.cell 15)
  rw [← hcs]
  clear hhi hlo hcs h0 h1 h2 h3 h4 h5 h6 h7 h8 h9 h10 h11 h12 h13 h14 h15
  go_enter Tryz.func101, Tryz.ntmps101
  go_wp2
  have hF0 : Fr w ((w.alloc (.cells cs 146)).alloc (.cells #[.int .u64 0, .int .u64 0, .pointer none] 121)) := ((Fr.refl _).alloc _).alloc _
  have hB0 : Blk ((w.alloc (.cells cs 146)).alloc (.cells #[.int .u64 0, .int .u64 0, .pointer none] 121)) w.heap.size 146 cs := (Blk.new _ _ _).alloc _
  have B1 := Lib.hid hB0.drew
  have BN : ∀ m, Hid (Blk (((w.alloc (.cells cs 146)).alloc (.cells #[.int .u64 0, .int .u64 0, .pointer none] 121)).drewN m) w.heap.size 146 cs) := fun m => Lib.hid (hB0.drewN m)
  replace BN := Lib.hid BN
  have a0 : ((w.alloc (.cells cs 146)).alloc (.cells #[.int .u64 0, .int .u64 0, .pointer none] 121)).drew.cell? ⟨6, 0, none⟩ = some (.pointer (some a6)) := cell_keep hF0.drew ha
  have a1 : ∀ m, (((w.alloc (.cells cs 146)).alloc (.cells #[.int .u64 0, .int .u64 0, .pointer none] 121)).drewN m).cell? ⟨6, 0, none⟩ = some (.pointer (some a6)) := fun m => cell_keep (hF0.drewN m) ha
  clear hB0
  replace hF0 := Lib.hid hF0
  go_region_with (first
    | (go_at_call 104; (with_reducible refine (C1.out _ B1).mono ?_); rintro e w1 ⟨rfl, m1, rfl⟩)
    | (go_at_call 104; (with_reducible refine (C2.out _ B1).mono ?_); rintro e w1 ⟨rfl, m2, rfl⟩)
    | (go_at_call 104; (with_reducible refine (C1.out _ (BN.out _)).mono ?_); rintro e w1 ⟨rfl, m1, rfl⟩)
    | (go_at_call 104; (with_reducible refine (C2.out _ (BN.out _)).mono ?_); rintro e w1 ⟨rfl, m2, rfl⟩))
  all_goals go_wp2
  all_goals (try simp only [Exit.inBlock, Exit.then])
  all_goals first
    | (refine bodyPost_ret (ret_ip rfl _ _ _ rfl _ _ ((((Lib.hid ((Blk.new_at (w := w.alloc (.cells cs 146)) (n := w.heap.size + 1) (t := 121) (cs := #[.int .u64 0, .int .u64 0, .pointer none]) (by simp)).drewN _)).out.set_ 0 (.int .u64 hi)).set_ 1 (.int .u64 lo)).set_ 2 (.pointer (some a6))) rfl) rfl ?_
       exact ⟨⟨hi, lo, rfl⟩, (((hF0.out.drewN _).setCell (p := ⟨w.heap.size + 1, 0, none⟩) (by simp) _).setCell (p := ⟨w.heap.size + 1, 1, none⟩) (by simp) _).setCell (p := ⟨w.heap.size + 1, 2, none⟩) (by simp) _⟩)
    | fail
theorem det_info : (Tryz.prog.info? 156).map (·.size) = some 2 := by kernel_rfl
theorem eq_nil (a6 : Addr) (d : Nat) (W : World) : (Op.equalIn (d + 1) 117 (.pointer (some a6)) (.pointer none)).run Tryz.prog W = .ok false W := by
  simp [Op.equalIn, run_underlying Tryz.underlying117]
theorem eq_other (a4 a6 : Addr) (c4 c6 : Array Value) (t4 t6 : TypeId) (hne : a6 ≠ a4) (w : World) (k4 : w.heap[a4.block]? = some (.cells c4 t4 (0, 0))) (k6 : w.heap[a6.block]? = some (.cells c6 t6 (0, 0))) (d : Nat) : (Op.equalIn (d + 1) 117 (.pointer (some a6)) (.pointer (some a4))).run Tryz.prog w = .ok false w := by
  obtain ⟨j, hj, hjs⟩ := Option.map_eq_some_iff.1 det_info
  have hjs' : j.size = 2 := hjs
  simp [Op.equalIn, run_underlying Tryz.underlying117, sizeOf, typeInfo, hj, hjs', run_sameAddr_other w hne k6 k4]
set_option maxHeartbeats 2000000 in
set_option maxRecDepth 100000 in
theorem Is6_any (hi lo : Int) (a4 a6 : Addr) (c4 c6 : Array Value) (t4 t6 : TypeId) (hne : a6 ≠ a4) (w : World) (h4 : w.cell? ⟨3, 0, none⟩ = some (.pointer (some a4))) (h6 : w.cell? ⟨6, 0, none⟩ = some (.pointer (some a6))) (h0 : w.cell? ⟨7, 0, none⟩ = some (.pointer none)) (k4 : w.heap[a4.block]? = some (.cells c4 t4 (0, 0))) (k6 : w.heap[a6.block]? = some (.cells c6 t6 (0, 0))) : Calls Tryz.prog 102 #[.agg #[.int .u64 hi, .int .u64 lo, .pointer (some a6)]] w fun e w' => e = .returned (.bool true) ∧ Fr w w' := by
  have e4 : ∀ o, (w.alloc o).cell? ⟨3, 0, none⟩ = some (.pointer (some a4)) := fun o => cell_keep ((Fr.refl w).alloc o) h4
  have e0 : ∀ o, (w.alloc o).cell? ⟨7, 0, none⟩ = some (.pointer none) := fun o => cell_keep ((Fr.refl w).alloc o) h0
  have q0 := eq_nil a6 9998
  have q4 : ∀ o, (Op.equalIn 9999 117 (.pointer (some a6)) (.pointer (some a4))).run Tryz.prog (w.alloc o) = .ok false (w.alloc o) := fun o =>
    eq_other a4 a6 c4 c6 t4 t6 hne (w.alloc o) (heap_keep ((Fr.refl w).alloc o) k4) (heap_keep ((Fr.refl w).alloc o) k6) 9998
  clear h4 h0 k4 k6
  go_enter Tryz.func102, Tryz.ntmps102
  go_wp2
  go_ret
  exact ⟨rfl, (Fr.refl _).alloc _⟩
set_option maxHeartbeats 2000000 in
set_option maxRecDepth 100000 in
theorem Is4_any (hi lo : Int) (a4 a6 : Addr) (c4 c6 : Array Value) (t4 t6 : TypeId) (hne : a6 ≠ a4) (w : World) (h4 : w.cell? ⟨3, 0, none⟩ = some (.pointer (some a4))) (h6 : w.cell? ⟨6, 0, none⟩ = some (.pointer (some a6))) (h0 : w.cell? ⟨7, 0, none⟩ = some (.pointer none)) (k4 : w.heap[a4.block]? = some (.cells c4 t4 (0, 0))) (k6 : w.heap[a6.block]? = some (.cells c6 t6 (0, 0))) : Calls Tryz.prog 86 #[.agg #[.int .u64 hi, .int .u64 lo, .pointer (some a6)]] w fun e w' => e = .returned (.bool false) ∧ Fr w w' := by
  have e4 : ∀ o, (w.alloc o).cell? ⟨3, 0, none⟩ = some (.pointer (some a4)) := fun o => cell_keep ((Fr.refl w).alloc o) h4
  have q4 : ∀ o, (Op.equalIn 9999 117 (.pointer (some a6)) (.pointer (some a4))).run Tryz.prog (w.alloc o) = .ok false (w.alloc o) := fun o =>
    eq_other a4 a6 c4 c6 t4 t6 hne (w.alloc o) (heap_keep ((Fr.refl w).alloc o) k4) (heap_keep ((Fr.refl w).alloc o) k6) 9998
  clear h4 h0 k4 k6
  go_enter Tryz.func86, Tryz.ntmps86
  go_wp2
  go_ret
  exact ⟨rfl, (Fr.refl _).alloc _⟩
set_option maxHeartbeats 4000000 in
set_option maxRecDepth 100000 in
theorem WithZone_any (hi lo : Int) (a4 a6 : Addr) (c4 c6 : Array Value) (t4 t6 : TypeId) (hne : a6 ≠ a4) (w : World) (h4 : w.cell? ⟨3, 0, none⟩ = some (.pointer (some a4))) (h6 : w.cell? ⟨6, 0, none⟩ = some (.pointer (some a6))) (h0 : w.cell? ⟨7, 0, none⟩ = some (.pointer none)) (k4 : w.heap[a4.block]? = some (.cells c4 t4 (0, 0))) (k6 : w.heap[a6.block]? = some (.cells c6 t6 (0, 0))) : Calls Tryz.prog 100 #[.agg #[.int .u64 hi, .int .u64 lo, .pointer (some a6)], .string ⟨#[]⟩] w fun e w' => e = .returned (.agg #[.int .u64 hi, .int .u64 lo, .pointer (some a6)]) ∧ Fr w w' := by
  have C := Lib.hid (fun W (f : Fr w W) => Is6_any hi lo a4 a6 c4 c6 t4 t6 hne W (cell_keep f h4) (cell_keep f h6) (cell_keep f h0) (heap_keep f k4) (heap_keep f k6))
  go_enter Tryz.func100, Tryz.ntmps100
  go_wp2_with (first
    | (go_at_call 102; (with_reducible refine (C.out _ (((Fr.refl _).alloc _).alloc _)).mono ?_); rintro e w1 ⟨rfl, hf1⟩; have hb1 := Lib.hid (((Blk.new w 121 #[.int .u64 hi, .int .u64 lo, .pointer (some a6)]).alloc (.cells #[.int .u64 0, .int .u64 0, .pointer none] 121)).below hf1 (by simp; omega)); have hr1 := Lib.hid ((Blk.new_at (w := w.alloc (.cells #[.int .u64 hi, .int .u64 lo, .pointer (some a6)] 121)) (n := w.heap.size + 1) (t := 121) (cs := #[.int .u64 0, .int .u64 0, .pointer none]) (by simp)).below hf1 (by simp)); have hF1 := Lib.hid ((((Fr.refl w).alloc _).alloc _).trans hf1); have g6 := cell_keep hF1.out h6; have d2 := hb1.out.cell 2; have f2 := hb1.out.frozen 2; have hb2 : Hid (Blk (w1.setCell ⟨w.heap.size, 2, none⟩ (.pointer (some a6))) w.heap.size 121 #[.int .u64 hi, .int .u64 lo, .pointer (some a6)]) := Lib.hid (hb1.out.set_ 2 _); have hr2 := Lib.hid (hr1.out.far (p := ⟨w.heap.size, 2, none⟩) (by simp) (.pointer (some a6))))
    | (refine wpList_load_ip rfl _ rfl _ rfl _ _ hb2 rfl ?_)
    | (refine wpList_store_ip rfl _ _ rfl _ _ rfl rfl _ _ hr2 rfl rfl (ip_one _ _ _) ?_)
    | fail)
  (try simp only [Exit.inBlock, Exit.then])
  refine bodyPost_ret (ret_ip rfl _ _ _ rfl _ _ (hr2.out.row _) rfl) rfl ?_
  exact ⟨rfl, (hF1.out.setCell (p := ⟨w.heap.size, 2, none⟩) (Nat.le_refl _) _).setRow (by omega) _⟩
end Go.Proofs.YtibcegbacnjmfaaGreatDoor
