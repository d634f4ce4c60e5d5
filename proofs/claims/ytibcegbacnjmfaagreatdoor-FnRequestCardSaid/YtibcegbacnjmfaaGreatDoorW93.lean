import Derived.Test.YtibcegbacnjmfaaGreatDoorW92
import Derived.Lib.Bytealg
import Derived.Laws.Externs
import Derived.Deep.DeepCutAuto
import Derived.Lib.SliceRun
import Derived.Deep.CutBlock
import Derived.Laws.IdiomCopy
import Derived.Test.YtibcegbacnjmfaaGreatDoorP
namespace Go.Proofs.YtibcegbacnjmfaaGreatDoor
set_option linter.unusedVariables false
set_option linter.unusedSimpArgs false
open Go.RowKit

/-- The result is an address in a cell of the call's own, and one more. -/
theorem ret_ip2 {fn : Func} {p q : Tmp} (h : fn.results = #[.cell p 121, .tmp q]) (tmps : Array Value) (w : World) (g : Nat) (hp : tmps.getD p undef = .pointer (some ⟨g, 0, none⟩)) (t : TypeId) (cs : Array Value) (hb : Blk w g t cs) (hs : cs.size = 3) :
    (results fn tmps).run Tryz.prog w = .ok (.tuple #[.agg cs, tmps.getD q undef]) w := by
  have hp' : tmps[p]?.getD undef = .pointer (some ⟨g, 0, none⟩) := by simpa using hp
  have hl := run_loadVar_row (P := Tryz.prog) w g t 121 cs (0, 0) _ hb Tryz.underlying121 rfl (by rw [ip_info, hs])
  simp [results, h, hp', asAddr, hl]
theorem indexByte_no (l : List UInt8) (c : UInt8) (h : c ∉ l) : Lib.indexByte l c = -1 := by
  induction l with
  | nil => rfl
  | cons d r ih =>
    simp at h
    unfold Lib.indexByte
    simp [ih h.2, Ne.symm h.1]
theorem ibs_run (s : ByteArray) (h : (37 : UInt8) ∉ L s) (W : World) : (callFunc 98 #[.string s, .int .u8 37]).run Tryz.prog W = .ok (.value (.int .i64 (-1))) W := by
  rw [run_callFunc_extern Tryz.func98 (by kernel_rfl) (by kernel_rfl) (by kernel_rfl) (e := Extern.BytealgIndexByte.indexByte) (by kernel_rfl), Lib.run_indexByteString]
  rw [show ((37 : Int).toNat.toUInt8) = 37 from rfl, indexByte_no _ _ h]
  rfl
set_option maxHeartbeats 2000000 in
set_option maxRecDepth 100000 in
theorem Unspecified_any (a6 : Addr) (w : World) (h6 : w.cell? ⟨6, 0, none⟩ = some (.pointer (some a6))) :
    Calls Tryz.prog 99 #[] w fun e w' => e = .returned (.agg #[.int .u64 0, .int .u64 0, .pointer (some a6)]) ∧ Fr w w' := by
  have e6 : ∀ o, (w.alloc o).cell? ⟨6, 0, none⟩ = some (.pointer (some a6)) := fun o => cell_keep ((Fr.refl w).alloc o) h6
  go_enter Tryz.func99, Tryz.ntmps99
  go_wp2
  (try simp only [Exit.inBlock, Exit.then])
  refine bodyPost_ret (results_cell_row rfl _ _ w.heap.size _ _ (0, 0) _ rfl (Blk.new _ _ _) Tryz.underlying121 rfl (by rw [ip_info]; rfl)) rfl ?_
  exact ⟨rfl, (Fr.refl _).alloc _⟩
theorem fr_grown {w0 a w' : World} {g : Nat} (h : Fr w0 a) (hg : a.grownBy w' (some g)) (hle : w0.heap.size ≤ g) : Fr w0 w' :=
  ⟨hg.os.trans h.os, hg.tape.trans h.tape, hg.output.trans h.output, Nat.le_trans h.size hg.size, fun k hk => (hg.block k (Nat.lt_of_lt_of_le hk h.size) (by intro e; cases e; omega)).trans (h.block k hk)⟩
theorem Blk.grown {a w' : World} {g b : Nat} {t : TypeId} {cs : Array Value} (h : Blk a b t cs) (hg : a.grownBy w' (some g)) (hne : b ≠ g) : Blk w' b t cs :=
  (hg.block b h.lt (by intro e; cases e; exact hne rfl)).trans h
theorem B16.new (w : World) : B16 (w.alloc (.cells (Array.replicate 16 (.int .u8 0)) 146)) w.heap.size := by
  refine ⟨_, Blk.new _ _ _, by simp, fun j hj => ⟨0, ?_, by omega, by omega⟩⟩
  rw [Array.getElem?_replicate, if_pos hj]
theorem B16.setCells {g : Nat} : ∀ (n o : Nat) (w : World), B16 w g → B16 (w.setCells g o (List.replicate n (.int .u8 0))) g
  | 0, o, w, h => h
  | n + 1, o, w, h => by
    rw [List.replicate_succ, World.setCells]
    exact B16.setCells n (o + 1) _ (h.set_ o 0 (by omega) (by omega))
theorem gb_setCells {a : World} {g : Nat} : ∀ (n o : Nat) (w : World), a.grownBy w (some g) → a.grownBy (w.setCells g o (List.replicate n (.int .u8 0))) (some g)
  | 0, o, w, h => h
  | n + 1, o, w, h => by
    rw [List.replicate_succ, World.setCells]
    exact gb_setCells n (o + 1) _ (gb_set h o _)
theorem B16.opened {w : World} {g : Nat} (h : B16 w g) : ∃ z : Nat → Int, Blk w g 146 #[.int .u8 (z 0), .int .u8 (z 1), .int .u8 (z 2), .int .u8 (z 3), .int .u8 (z 4), .int .u8 (z 5), .int .u8 (z 6), .int .u8 (z 7), .int .u8 (z 8), .int .u8 (z 9), .int .u8 (z 10), .int .u8 (z 11), .int .u8 (z 12), .int .u8 (z 13), .int .u8 (z 14), .int .u8 (z 15)] ∧ ∀ j, j < 16 → 0 ≤ z j ∧ z j ≤ 255 := by
  obtain ⟨cs, hb, hs, hc⟩ := h
  have hz : ∃ z : Nat → Int, ∀ j, j < 16 → cs[j]? = some (.int .u8 (z j)) ∧ 0 ≤ z j ∧ z j ≤ 255 :=
    ⟨fun j => if h : j < 16 then Classical.choose (hc j h) else 0, fun j hj => by simp only [dif_pos hj]; exact Classical.choose_spec (hc j hj)⟩
  obtain ⟨z, hz⟩ := hz
  refine ⟨z, ?_, fun j hj => (hz j hj).2⟩
  have e : cs = #[.int .u8 (z 0), .int .u8 (z 1), .int .u8 (z 2), .int .u8 (z 3), .int .u8 (z 4), .int .u8 (z 5), .int .u8 (z 6), .int .u8 (z 7), .int .u8 (z 8), .int .u8 (z 9), .int .u8 (z 10), .int .u8 (z 11), .int .u8 (z 12), .int .u8 (z 13), .int .u8 (z 14), .int .u8 (z 15)] := by
    apply Array.ext_getElem?
    intro i
    by_cases hi : i < 16
    · rw [(hz i hi).1]
      have : i = 0 ∨ i = 1 ∨ i = 2 ∨ i = 3 ∨ i = 4 ∨ i = 5 ∨ i = 6 ∨ i = 7 ∨ i = 8 ∨ i = 9 ∨ i = 10 ∨ i = 11 ∨ i = 12 ∨ i = 13 ∨ i = 14 ∨ i = 15 := by omega
      rcases this with rfl | rfl | rfl | rfl | rfl | rfl | rfl | rfl | rfl | rfl | rfl | rfl | rfl | rfl | rfl | rfl <;> rfl
    · rw [Array.getElem?_eq_none (by omega), Array.getElem?_eq_none (by simp; omega)]
  rw [← e]; exact hb
theorem get_of {t : ByteArray} {k : Nat} {c : UInt8} {r : List UInt8} (h : (L t).drop k = c :: r) : ∃ hk : k < t.size, t[k] = c ∧ (L t).drop (k + 1) = r := by
  rcases Nat.lt_or_ge k t.size with hk | hk
  · rw [drop_cons t k hk] at h
    cases h
    exact ⟨hk, rfl, rfl⟩
  · rw [drop_end t k hk] at h; cases h
/-- What is left of a text is cut again. -/
theorem cut_more {s t t1 : ByteArray} {k h : Nat} (e : s.extract k s.size = t) (e1 : t.extract h t.size = t1) : s.extract (k + h) s.size = t1 := by
  rw [← e1, ext_from, ext_from, ← e, ext_from, L_mk, List.drop_drop]
theorem cut_L {t t1 : ByteArray} {h : Nat} (e1 : t.extract h t.size = t1) : L t1 = (L t).drop h := by rw [← e1, ext_from, L_mk]
theorem cut_size {t t1 : ByteArray} {h : Nat} (e1 : t.extract h t.size = t1) (hh : h ≤ t.size) : t1.size + h = t.size := by
  rw [← e1]; simp; omega
def strLn (v : Value) : Nat := match v with | .string s => s.size | _ => 0
end Go.Proofs.YtibcegbacnjmfaaGreatDoor
