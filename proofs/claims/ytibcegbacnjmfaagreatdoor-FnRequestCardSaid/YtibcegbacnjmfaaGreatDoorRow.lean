/-
  A slice of bytes of the call's own: appending a byte, its string.
-/
import Derived.Test.YtibcegbacnjmfaaGreatDoorW1
import Derived.Lib.UnsafeStr
import Derived.Laws.IdiomStrings
import Derived.Laws.BytesArg
import Derived.Laws.AppendOwn
import Derived.WalkKit
namespace Go.Proofs.YtibcegbacnjmfaaGreatDoor
set_option linter.unusedVariables false
set_option linter.unusedSimpArgs false
open Go.RowKit

theorem infoU8 : (Tryz.prog.info? 5).map (fun i => (i.zero, i.size, i.bytes)) = some (some (.int .u8 0), 1, 1) := by kernel_rfl
/-- v is a slice of bytes that was made since B, with the bytes l, from its block's start. -/
def Row (B : Nat) (w : World) (v : Value) (l : List UInt8) : Prop := w.ownsRow B 5 1 v l.length (Lib.byteCells l)
theorem Row.nil (B : Nat) (w : World) : Row B w (.slice none 0 0) [] := World.ownsRow_nil _ _ _ _
theorem Row.drewN {B : Nat} {w : World} {v : Value} {l : List UInt8} (h : Row B w v l) (n : Nat) : Row B (w.drewN n) v l := h
theorem Row.drew {B : Nat} {w : World} {v : Value} {l : List UInt8} (h : Row B w v l) : Row B w.drew v l := h
theorem Row.string {B : Nat} {w : World} {v : Value} {l : List UInt8} (h : Row B w v l) : (convert 70 9 v).run Tryz.prog w = .ok (.string (mk l)) w := by
  have hl := h.1
  rcases h.2 with ⟨rfl, h0⟩ | ⟨g, cap, cur, rfl, hg, hb, hn, hc, hs, ht⟩
  · have : l = [] := List.eq_nil_of_length_eq_zero h0
    subst this
    exact run_convert_bytes_nil w _ _ Tryz.underlying70 Tryz.underlying5 _ _ _ Tryz.underlying9
  · refine run_convert_bytes_back w _ _ _ _ _ _ Tryz.underlying70 Tryz.underlying5 Tryz.underlying9 ?_
    intro j hj
    have hj2 : j < cur.size := by omega
    have e1 : (Lib.byteCells l)[j]? = some (.int .u8 (l[j].toNat : Int)) := by simp [Lib.byteCells, List.getElem?_eq_getElem hj]
    rw [← ht] at e1
    have e2 : cur[j]? = some (.int .u8 (l[j].toNat : Int)) := by
      rw [List.getElem?_take] at e1
      split at e1
      · simpa using e1
      · cases e1
    by_cases hj0 : j = 0
    · subst hj0; simp [World.cell?, Addr.add, hb, e2]
    · simp [World.cell?, Addr.add, hb, e2, hj0]
theorem Row.len {B : Nat} {w : World} {v : Value} {l : List UInt8} (h : Row B w v l) : ∃ a cap, v = .slice a l.length cap := by
  rcases h.2 with ⟨rfl, h0⟩ | ⟨g, cap, cur, rfl, hg, hb, hn, hc, hs, ht⟩
  · exact ⟨none, 0, by rw [h0]⟩
  · exact ⟨_, _, rfl⟩
/-- A byte is appended (the slice of the one byte has just been made). -/
theorem wpList_push {ops : Array Oper} {rest : List Oper} {o : Oper} {a : Act} {Q : Exit → Act → World → Prop} (hgd : o.guard = none) (s x : Operand)
    (ho : o.op = .call { callee := .builtin .append, args := #[s, x], argTypes := #[70, 70] })
    (B : Nat) (v : Value) (l : List UInt8) (c : UInt8) (w : World) (hB : B ≤ w.heap.size) (hl : l.length ≤ 70368744177664) (hs : a.eval s = v) (h : Row B w v l)
    (hx : a.eval x = .slice (some ⟨w.heap.size, 0, none⟩) 1 1)
    (hk : ∀ v' w', Below B w w' → Row B w' v' (l ++ [c]) → wpList Tryz.prog ops Q rest (a.put o.dst v') w') :
    wpList Tryz.prog ops Q (o :: rest) a (w.alloc (.cells #[.int .u8 (c.toNat : Int)] 5)) := by
  obtain ⟨i0, hi, hz0, hz1, hz2⟩ := info_parts infoU8
  refine wpList_append_own _ hgd s x 70 ho B 5 i0 (.int .u8 0) 1 1 Tryz.underlying70 hi hz0 hz1 hz2 rfl (by decide) v l.length (Lib.byteCells l) hs (World.ownsRow.alloc h _) ⟨w.heap.size, 0, none⟩ 1 1 [.int .u8 (c.toNat : Int)] hx rfl ?_ ?_ ?_ ?_ ?_ ?_
  · intro j u hj
    match j, hj with
    | 0, hj => simp at hj; subst hj; simp [Addr.add]
  · intro u hu; simp at hu; subst hu; rfl
  · unfold maxLen; omega
  · omega
  · simp; omega
  · intro v' w' hown' hgrow _
    refine hk v' w' ?_ ?_
    · exact ((Below.refl B w).alloc hB _).grown hgrow (by simp; omega) (fun k hk => (World.ownsRow.lt h k hk).1)
    · show w'.ownsRow B 5 1 v' (l ++ [c]).length (Lib.byteCells (l ++ [c]))
      have e : Lib.byteCells (l ++ [c]) = Lib.byteCells l ++ [.int .u8 (c.toNat : Int)] := by simp [Lib.byteCells]
      rw [e, List.length_append]
      exact hown'
theorem wpList_pushH {ops : Array Oper} {rest : List Oper} {o : Oper} {a : Act} {Q : Exit → Act → World → Prop} (hgd : o.guard = none) (s x : Operand)
    (ho : o.op = .call { callee := .builtin .append, args := #[s, x], argTypes := #[70, 70] })
    (w0 : World) (v : Value) (l : List UInt8) (c : UInt8) (w : World) (hf : Fr w0 w) (hl : l.length ≤ 70368744177664) (hs : a.eval s = v) (h : Hid (Row w0.heap.size w v l))
    (hx : a.eval x = .slice (some ⟨w.heap.size, 0, none⟩) 1 1)
    (hk : ∀ v' w', Fr w0 w' → Hid (Row w0.heap.size w' v' (l ++ [c])) → wpList Tryz.prog ops Q rest (a.put o.dst v') w') :
    wpList Tryz.prog ops Q (o :: rest) a (w.alloc (.cells #[.int .u8 (c.toNat : Int)] 5)) :=
  wpList_push hgd s x ho w0.heap.size v l c w hf.size hl hs h.out hx (fun v' w' hb hr => hk v' w' (Below.trans hf hb) (Lib.hid hr))
/-- .. as a step of a region that draws its order. -/
theorem step_pushH {ops : Array Oper} {o : Oper} {a : Act} {K : Act → World → Prop} {Q : Exit → Act → World → Prop} {E : Prop} (hg : o.guard = none) (s x : Operand)
    (hop : o.op = Op.call { callee := Callee.builtin Builtin.append, args := #[s, x], argTypes := #[70, 70] })
    (w0 : World) (v : Value) (l : List UInt8) (c : UInt8) (w : World) (hf : Fr w0 w) (hl : l.length ≤ 70368744177664) (hs : a.eval s = v) (h : Hid (Row w0.heap.size w v l))
    (hx : a.eval x = .slice (some ⟨w.heap.size, 0, none⟩) 1 1)
    (hk : ∀ v' w', Fr w0 w' → Hid (Row w0.heap.size w' v' (l ++ [c])) → K (a.put o.dst v') w') :
    if Region.wanted o (yielded ops a.tmps) = true then Oper.wp Tryz.prog o a (w.alloc (.cells #[.int .u8 (c.toNat : Int)] 5)).drew K Q else E := by
  have hw : Region.wanted o (yielded ops a.tmps) = true := by simp [Region.wanted, hg]
  rw [if_pos hw]
  obtain ⟨i0, hi, hz0, hz1, hz2⟩ := info_parts infoU8
  have hown : (w.alloc (.cells #[.int .u8 (c.toNat : Int)] 5)).drew.ownsRow w0.heap.size 5 1 v l.length (Lib.byteCells l) := World.ownsRow.alloc h.out _
  have hsz := hf.size
  obtain ⟨v', w', hrun, r1, r2, _⟩ := run_append_own (P := Tryz.prog) (w.alloc (.cells #[.int .u8 (c.toNat : Int)] 5)).drew w0.heap.size 70 o.type 5 i0 (.int .u8 0) 1 1 Tryz.underlying70 hi hz0 hz1 hz2 rfl (by decide) v l.length (Lib.byteCells l) hown
    ⟨w.heap.size, 0, none⟩ 1 1 [.int .u8 (c.toNat : Int)] rfl
    (by intro j u hj; match j, hj with | 0, hj => simp at hj; subst hj; simp [Addr.add]) (by intro u hu; simp at hu; subst hu; rfl) (by unfold maxLen; omega) (by omega) (by show w0.heap.size ≤ (w.heap.push _).size; rw [Array.size_push]; omega)
  unfold Oper.wp
  simp [execOp, hop, resolve, invoke, builtin, hs, hx, hrun, Result.andThen]
  have hb : Below w0.heap.size w0 (w.alloc (.cells #[.int .u8 (c.toNat : Int)] 5)).drew := (hf.alloc _).drew
  refine hk v' w' (Below.grown hb r2 (by show w0.heap.size ≤ (w.heap.push _).size; rw [Array.size_push]; omega) (fun k hk => (World.ownsRow.lt hown k hk).1)) (Lib.hid ?_)
  show w'.ownsRow w0.heap.size 5 1 v' (l ++ [c]).length (Lib.byteCells (l ++ [c]))
  have e : Lib.byteCells (l ++ [c]) = Lib.byteCells l ++ [.int .u8 (c.toNat : Int)] := by simp [Lib.byteCells]
  rw [e, List.length_append]
  exact r1
end Go.Proofs.YtibcegbacnjmfaaGreatDoor
