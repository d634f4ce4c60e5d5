/-
  A whole struct is loaded, stored, returned.
-/
import Derived.Test.YtibcegbacnjmfaaGreatDoorW17
import Derived.Laws.Rows
import Derived.Laws.NewBlocks
namespace Go.Proofs.YtibcegbacnjmfaaGreatDoor
set_option linter.unusedVariables false
set_option linter.unusedSimpArgs false
open Go.RowKit

theorem Fr.setRow {a b : World} (h : Fr a b) {g : Nat} (hg : a.heap.size ≤ g) (cs : Array Value) : Fr a (b.setRow g cs) :=
  ⟨h.os, h.tape, h.output, by have := h.size; simpa [World.setRow] using this, fun k hk => (setRow_other b g k cs (by omega)).trans (h.block k hk)⟩
section
variable {w : World} {g k : Nat} {t : TypeId} {old cs : Array Value}
theorem Blk.row (h : Blk w g t old) (cs : Array Value) : Blk (w.setRow g cs) g t cs := setRow_heap w g old cs t (0, 0) h
theorem Blk.farRow (h : Blk w g t cs) (hne : g ≠ k) (c : Array Value) : Blk (w.setRow k c) g t cs := (setRow_other w k g c hne).trans h
theorem UserIs.farRow {v : Value} {u : Option (ByteArray × ByteArray × Bool)} (h : UserIs w v u) (hp : ∀ a, v = .pointer (some a) → k ≠ a.block) (c : Array Value) : UserIs (w.setRow k c) v u := by
  match u, h with
  | none, h => exact h
  | some (n, p, b), ⟨g, hg, hb⟩ => exact ⟨g, hg, hb.farRow (fun e => hp _ hg e.symm) c⟩
end
theorem iu_info : (Tryz.prog.info? 28).map (·.size) = some 16 := by kernel_rfl
theorem url_info : (Tryz.prog.info? 64).map (·.size) = some 11 := by kernel_rfl
section
variable {ops : Array Oper} {rest : List Oper} {o : Oper} {a : Act} {w : World} {Q : Exit → Act → World → Prop}
/-- The thin package's URL is loaded whole. -/
theorem wpList_load_iu (hgd : o.guard = none) (x : Operand) (ho : o.op = .load 28 x) (g : Nat) (hx : a.eval x = .pointer (some ⟨g, 0, none⟩)) (t : TypeId) (cs : Array Value) (hb : Hid (Blk w g t cs)) (hs : cs.size = 16)
    (h : wpList Tryz.prog ops Q rest (a.put o.dst (.agg cs)) w) : wpList Tryz.prog ops Q (o :: rest) a w :=
  wpList_load_row hgd _ x ho g hx t cs (0, 0) _ hb.out Tryz.underlying28 rfl (by rw [iu_info, hs]) h
/-- .. is stored whole. -/
theorem wpList_store_iu (hgd : o.guard = none) (x y : Operand) (ho : o.op = .store 28 x y) (g : Nat) (cells : Array Value) (hx : a.eval x = .pointer (some ⟨g, 0, none⟩)) (hy : a.eval y = .agg cells)
    (t : TypeId) (old : Array Value) (hb : Hid (Blk w g t old)) (hs : cells.size = 16) (hold : old.size = 16) (h1 : cells.all (·.oneCell') = true)
    (h : wpList Tryz.prog ops Q rest (a.put o.dst undef) (w.setRow g cells)) : wpList Tryz.prog ops Q (o :: rest) a w :=
  wpList_store_row hgd _ x y ho g cells hx hy t old hb.out (by rw [iu_info, hs]) (by rw [hold, hs]) h1 h
end
/-- The result is a struct in a cell of the call's own. -/
theorem ret_iu {fn : Func} {p : Tmp} (h : fn.results = #[.cell p 28]) (tmps : Array Value) (w : World) (g : Nat) (hp : tmps.getD p undef = .pointer (some ⟨g, 0, none⟩)) (t : TypeId) (cs : Array Value) (hb : Blk w g t cs) (hs : cs.size = 16) :
    (results fn tmps).run Tryz.prog w = .ok (.agg cs) w :=
  results_cell_row h tmps w g t cs (0, 0) _ hp hb Tryz.underlying28 rfl (by rw [iu_info, hs])
/-- .. and one more result. -/
theorem ret_iu2 {fn : Func} {p q : Tmp} (h : fn.results = #[.cell p 28, .tmp q]) (tmps : Array Value) (w : World) (g : Nat) (hp : tmps.getD p undef = .pointer (some ⟨g, 0, none⟩)) (t : TypeId) (cs : Array Value) (hb : Blk w g t cs) (hs : cs.size = 16) :
    (results fn tmps).run Tryz.prog w = .ok (.tuple #[.agg cs, tmps.getD q undef]) w := by
  have hp' : tmps[p]?.getD undef = .pointer (some ⟨g, 0, none⟩) := by simpa using hp
  have hl := run_loadVar_row (P := Tryz.prog) w g t 28 cs (0, 0) _ hb Tryz.underlying28 rfl (by rw [iu_info, hs])
  simp [results, h, hp', asAddr, hl]
theorem iurlA_one (u : IUrl) : (iurlA u).all (·.oneCell') = true := by simp [iurlA, Value.oneCell']
theorem iurlA_size (u : IUrl) : (iurlA u).size = 16 := rfl
end Go.Proofs.YtibcegbacnjmfaaGreatDoor
