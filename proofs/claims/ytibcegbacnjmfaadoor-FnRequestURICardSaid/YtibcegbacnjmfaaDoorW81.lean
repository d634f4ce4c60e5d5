import Derived.Test.YtibcegbacnjmfaaDoorSc
import Derived.Test.YtibcegbacnjmfaaDoorBlk
import Derived.Test.YtibcegbacnjmfaaDoorW3
namespace Go.Proofs.YtibcegbacnjmfaaDoor
set_option linter.unusedVariables false
set_option linter.unusedSimpArgs false
open Go.RowKit

/-- A builder in block B that holds the bytes l. -/
def BU (B n : Nat) (l : List UInt8) (w : World) : Prop := ISB B B (Lib.byteCells l) w ∧ l.length ≤ n * 1099511627776 ∧ B ≤ w.heap.size
theorem buStr (l : List UInt8) (s : ByteArray) : Lib.byteCells l ++ Lib.strCells s = Lib.byteCells (l ++ L s) := by
  rw [Lib.strCells_eq]; simp [Lib.byteCells, L]
theorem buByte (l : List UInt8) (c : UInt8) : Lib.byteCells l ++ [.int .u8 (c.toNat : Int)] = Lib.byteCells (l ++ [c]) := by simp [Lib.byteCells]
theorem BU.mono {B n m : Nat} {l : List UInt8} {w : World} (h : BU B n l w) (hm : n ≤ m) : BU B m l w := ⟨h.1, Nat.le_trans h.2.1 (Nat.mul_le_mul_right _ hm), h.2.2⟩
theorem BU.fr {B n : Nat} {l : List UInt8} {w w' : World} (h : BU B n l w) (f : Fr w w') : BU B n l w' := by
  obtain ⟨h1, h2, h3⟩ := h
  have go : ∀ p, SB B B p (Lib.byteCells l) w → SB B B p (Lib.byteCells l) w' := by
    rintro p ⟨hB, v, hbk, hown, hne⟩
    have hlt : B < w.heap.size := by
      rcases Nat.lt_or_ge B w.heap.size with h' | h'
      · exact h'
      · simp [Array.getElem?_eq_none h'] at hbk
    exact ⟨hB, v, (f.block B hlt).trans hbk, hown.kept (row := none) ⟨f.os, f.tape, f.output, f.size, fun k hk _ => f.block k hk⟩ (by cases v.ownBlock <;> simp), hne⟩
  refine ⟨?_, h2, Nat.le_trans h3 f.size⟩
  rcases h1 with h1 | h1
  · exact .inl (go _ h1)
  · exact .inr (go _ h1)
theorem wsB (B n : Nat) (l : List UInt8) (s : ByteArray) (W : World) (hs : s.size ≤ 1099511627776) (hn : n ≤ 60) (h : Hid (BU B n l W)) :
    Calls Tryd.prog 40 #[.pointer (some ⟨B, 0, none⟩), .string s] W fun e w' => e = .returned (.tuple #[.int .i64 s.size, .nilIface]) ∧ BU B (n + 1) (l ++ L s) w' ∧ Below B W w' := by
  obtain ⟨h1, h2, h3⟩ := h.out
  refine (sbWriteString B B _ s W h1 (by rw [Lib.byteCells_length]; omega) h3).mono ?_
  rintro e w' ⟨rfl, h4, h5⟩
  rw [buStr] at h4
  exact ⟨rfl, ⟨.inr h4, by rw [List.length_append, L_length]; omega, Nat.le_trans h3 h5.size⟩, h5⟩
theorem wbB (B n : Nat) (l : List UInt8) (c : UInt8) (ci : Int) (hc : ci = (c.toNat : Int)) (W : World) (hn : n ≤ 60) (h : Hid (BU B n l W)) :
    Calls Tryd.prog 41 #[.pointer (some ⟨B, 0, none⟩), .int .u8 ci] W fun e w' => e = .returned .nilIface ∧ BU B (n + 1) (l ++ [c]) w' ∧ Below B W w' := by
  subst hc
  obtain ⟨h1, h2, h3⟩ := h.out
  refine (sbWriteByte B B _ _ W h1 (by rw [Lib.byteCells_length]; omega) h3).mono ?_
  rintro e w' ⟨rfl, h4, h5⟩
  rw [buByte] at h4
  exact ⟨rfl, ⟨.inr h4, by rw [List.length_append]; simp; omega, Nat.le_trans h3 h5.size⟩, h5⟩
theorem lenB (B n : Nat) (l : List UInt8) (W : World) (h : Hid (BU B n l W)) :
    Calls Tryd.prog 45 #[.pointer (some ⟨B, 0, none⟩)] W fun e w' => e = .returned (.int .i64 (l.length : Int)) ∧ W = w' := by
  have := sbLen B B _ W h.out.1
  rw [Lib.byteCells_length] at this
  exact this
theorem strB (B n : Nat) (l : List UInt8) (W : World) (h : Hid (BU B n l W)) :
    Calls Tryd.prog 47 #[.pointer (some ⟨B, 0, none⟩)] W fun e w' => e = .returned (.string (mk l)) ∧ Below B W w' := sbString B B l W h.out.1 h.out.2.2
theorem growB (B N : Nat) (W : World) (hN : N ≤ 70368744177664) (h : Hid (Blk W B 71 #[.pointer none, .slice none 0 0])) (hB : B ≤ W.heap.size) :
    Calls Tryd.prog 39 #[.pointer (some ⟨B, 0, none⟩), .int .i64 ((N : Int) + 12)] W fun e w' => e = .returned (.tuple #[]) ∧ BU B 0 [] w' ∧ Below B W w' := by
  have := sbGrow_fresh B B (N + 12) W (Nat.le_refl _) h.out hB (by omega)
  rw [show (((N + 12 : Nat)) : Int) = (N : Int) + 12 by omega] at this
  refine this.mono ?_
  rintro e w' ⟨rfl, h4, h5⟩
  exact ⟨rfl, ⟨.inr h4, Nat.zero_le _, Nat.le_trans hB h5.size⟩, h5⟩
end Go.Proofs.YtibcegbacnjmfaaDoor
