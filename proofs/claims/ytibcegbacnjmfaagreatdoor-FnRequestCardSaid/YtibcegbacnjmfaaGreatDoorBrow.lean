/-
  A block of bytes: []byte(s), stores into it, its string.
-/
import Derived.Test.YtibcegbacnjmfaaGreatDoorRow
import Derived.Laws.MakeOwn
import Derived.Laws.IdiomCopy
import Derived.Lib.LazyBuf
namespace Go.Proofs.YtibcegbacnjmfaaGreatDoor
set_option linter.unusedVariables false
set_option linter.unusedSimpArgs false
open Go.RowKit

/-- Block g holds, from its start, the bytes bs (perhaps more behind them), none of them frozen. -/
def BRow (w : World) (g : Nat) (bs : List UInt8) : Prop :=
  ∃ (cs : Array Value) (T : TypeId) (fz : Nat × Nat), w.heap[g]? = some (.cells cs T fz) ∧ (∀ (j : Nat) (h : j < bs.length), cs[j]? = some (.int .u8 (bs[j].toNat : Int))) ∧ (∀ j, j < bs.length → ¬ (fz.1 ≤ j ∧ j < fz.2))
section
variable {w w' : World} {g : Nat} {bs : List UInt8}
theorem BRow.lt (h : BRow w g bs) : g < w.heap.size := by
  obtain ⟨cs, T, fz, hb, _⟩ := h
  rcases Nat.lt_or_ge g w.heap.size with hlt | hge
  · exact hlt
  · rw [Array.getElem?_eq_none hge] at hb; cases hb
theorem BRow.cell (h : BRow w g bs) (j : Nat) (hj : j < bs.length) : w.cell? ⟨g, j, none⟩ = some (.int .u8 (bs[j].toNat : Int)) := by
  obtain ⟨cs, T, fz, hb, hc, _⟩ := h
  simp [World.cell?, hb, hc j hj]
theorem BRow.frozen (h : BRow w g bs) (j : Nat) (hj : j < bs.length) : w.frozen? ⟨g, j, none⟩ = false := by
  obtain ⟨cs, T, fz, hb, _, hf⟩ := h
  have := hf j hj
  simp only [World.frozen?, hb]
  simp at this ⊢
  first | exact this | omega | (intro h1; have := this h1; omega)
theorem BRow.drew (h : BRow w g bs) : BRow w.drew g bs := h
theorem BRow.drewN (h : BRow w g bs) (n : Nat) : BRow (w.drewN n) g bs := h
theorem BRow.below {B : Nat} (h : BRow w g bs) (hb : Below B w w') (hg : g < B) : BRow w' g bs := by
  obtain ⟨cs, T, fz, h1, h2⟩ := h
  exact ⟨cs, T, fz, (hb.block g hg).trans h1, h2⟩
theorem BRow.alloc (h : BRow w g bs) (o : Obj) : BRow (w.alloc o) g bs := by
  have hl := h.lt
  obtain ⟨cs, T, fz, h1, h2⟩ := h
  exact ⟨cs, T, fz, (Below.heap_alloc w o g hl).trans h1, h2⟩
theorem BRow.far (h : BRow w g bs) {p : Addr} (hp : g ≠ p.block) (u : Value) : BRow (w.setCell p u) g bs := by
  obtain ⟨cs, T, fz, h1, h2⟩ := h
  exact ⟨cs, T, fz, (Below.heap_setCell w p u g hp).trans h1, h2⟩
theorem BRow.set_ (h : BRow w g bs) (j : Nat) (hj : j < bs.length) (c : UInt8) : BRow (w.setCell ⟨g, j, none⟩ (.int .u8 (c.toNat : Int))) g (bs.set j c) := by
  obtain ⟨cs, T, fz, hb, hc, hf⟩ := h
  refine ⟨cs.setIfInBounds j (.int .u8 (c.toNat : Int)), T, fz, ?_, ?_, ?_⟩
  · simp [World.setCell, Array.getElem?_modify, hb]
  · intro i hi
    rw [List.length_set] at hi
    have hcj := hc j hj
    have hjs : j < cs.size := by
      rcases Nat.lt_or_ge j cs.size with h' | h'
      · exact h'
      · rw [Array.getElem?_eq_none h'] at hcj; cases hcj
    by_cases e : j = i
    · subst e; simp [hjs]
    · simp [Array.getElem?_setIfInBounds, e, List.getElem_set_ne, hc i hi]
  · intro i hi; rw [List.length_set] at hi; exact hf i hi
theorem BRow.take (h : BRow w g bs) (n : Nat) (hn : n ≤ bs.length) : BRow w g (bs.take n) := by
  obtain ⟨cs, T, fz, hb, hc, hf⟩ := h
  refine ⟨cs, T, fz, hb, ?_, ?_⟩
  · intro j hj; rw [List.length_take] at hj; rw [List.getElem_take]; exact hc j (by omega)
  · intro j hj; rw [List.length_take] at hj; exact hf j (by omega)
theorem BRow.string (h : BRow w g bs) (n cap : Nat) (hn : n = bs.length) : (convert 70 9 (.slice (some ⟨g, 0, none⟩) n cap)).run Tryz.prog w = .ok (.string (mk bs)) w := by
  subst hn
  refine run_convert_bytes_back w _ _ _ _ _ _ Tryz.underlying70 Tryz.underlying5 Tryz.underlying9 ?_
  intro j hj
  have := h.cell j hj
  by_cases hj0 : j = 0
  · subst hj0; simpa [Addr.add] using this
  · simpa [Addr.add, hj0] using this
end
/-- []byte(s). -/
theorem bytes_conv (s : ByteArray) (w : World) :
    ∃ g cap w1, (convert 9 70 (.string s)).run Tryz.prog w = .ok (.slice (some ⟨g, 0, none⟩) s.size cap) w1 ∧ Fr w w1 ∧ w.heap.size ≤ g ∧ BRow w1 g (L s) := by
  refine ⟨_, _, _, run_bytes_of_string w 9 70 5 s Tryz.underlying9 Tryz.underlying70 Tryz.underlying5, (Fr.refl w).drew.alloc _, Nat.le_refl _, ?_⟩
  refine ⟨_, _, _, heap_alloc_new w.drew _, ?_, ?_⟩
  · intro j hj
    have hj' : j < s.data.size := by simpa [L] using hj
    rw [bytesRow_at s _ j hj']
    simp [L]
  · intro j hj
    have hj' : j < s.data.size := by simpa [L] using hj
    have : s.data.size ≤ (bytesRow s (grownCap w s.size 0 5)).size := by unfold bytesRow; simp
    simp; omega
theorem BRow.zeros (w : World) (n : Nat) (T : TypeId) (cs : Array Value) (h : ∀ j, j < n → cs[j]? = some (.int .u8 0)) : BRow (w.alloc (.cells cs T)) w.heap.size (List.replicate n 0) := by
  refine ⟨_, _, _, heap_alloc_new w _, ?_, ?_⟩
  · intro j hj
    rw [List.length_replicate] at hj
    rw [h j hj]; simp
  · intro j hj; simp
/-- A store of the next byte behind those that were written. -/
theorem BRow.next {w : World} {g : Nat} {l : List UInt8} {n k : Nat} (h : BRow w g (l ++ List.replicate n 0)) (c : UInt8) (hk : k = l.length) (hn : 0 < n) : BRow (w.setCell ⟨g, k, none⟩ (.int .u8 (c.toNat : Int))) g ((l ++ [c]) ++ List.replicate (n - 1) 0) := by
  subst hk
  have := h.set_ l.length (by simp; omega) c
  have e : (l ++ List.replicate n 0).set l.length c = (l ++ [c]) ++ List.replicate (n - 1) 0 := by
    obtain ⟨m, rfl⟩ : ∃ m, n = m + 1 := ⟨n - 1, by omega⟩
    rw [List.set_append_right _ _ (by omega), Nat.sub_self, List.replicate_succ]; simp
  rw [e] at this; exact this
theorem BRow.setCells {g : Nat} (l : List UInt8) : ∀ (k : Nat) (bs : List UInt8) (w : World), BRow w g bs → k + l.length ≤ bs.length → BRow (w.setCells g k (l.map fun x => Value.int .u8 (x.toNat : Int))) g (bs.take k ++ l ++ bs.drop (k + l.length)) := by
  induction l with
  | nil => intro k bs w h _; simpa [World.setCells] using h
  | cons c l ih =>
    intro k bs w h hk
    simp only [List.length_cons] at hk
    have h1 := h.set_ k (by omega) c
    have h2 := ih (k + 1) (bs.set k c) _ h1 (by rw [List.length_set]; omega)
    have e : (bs.set k c).take (k + 1) ++ l ++ (bs.set k c).drop (k + 1 + l.length) = bs.take k ++ (c :: l) ++ bs.drop (k + (l.length + 1)) := by
      have e1 : (bs.set k c).take (k + 1) = bs.take k ++ [c] := by
        rw [List.take_succ_eq_append_getElem (by rw [List.length_set]; omega), List.getElem_set_self, List.take_set_of_le (Nat.le_refl _)]
      have e2 : (bs.set k c).drop (k + 1 + l.length) = bs.drop (k + 1 + l.length) := by rw [List.drop_set_of_lt (by omega)]
      rw [e1, e2, show k + (l.length + 1) = k + 1 + l.length by omega]; simp
    rw [e] at h2
    exact h2
/-- make([]byte, n). -/
theorem make_bytes (n : Nat) (hn : n ≤ 70368744177664) (w : World) :
    (Instr.makeSlice 70 (.int .i64 (n : Int)) (.int .i64 (n : Int))).run Tryz.prog w = .ok (.slice (some ⟨w.heap.size, 0, none⟩) n n) (w.alloc (.cells (Array.replicate n (.int .u8 0)) 5)) := by
  obtain ⟨i0, hi, hz0, hz1, hz2⟩ := info_parts infoU8
  have hr := run_make (P := Tryz.prog) w 70 5 i0 (.int .u8 0) Tryz.underlying70 hi hz0 .i64 .i64 n n (by omega) (Int.le_refl _) (by rw [hz2]; omega) (by omega)
  simp only [Int.toNat_natCast, hz1, Nat.mul_one] at hr
  rw [hr]
  have e : madeCells (Value.cells (.int .u8 0)) n = Array.replicate n (.int .u8 0) := by
    apply Array.ext
    · simp [madeCells]
    · intro j h1 h2
      have e1 : j % 1 = 0 := by omega
      simp [madeCells, Value.cells, e1]
  rw [e]
theorem BRow.zeros_at {w : World} {g : Nat} (hg : g = w.heap.size) (n : Nat) (T : TypeId) : BRow (w.alloc (.cells (Array.replicate n (.int .u8 0)) T)) g (List.replicate n 0) := by
  rw [hg]
  exact BRow.zeros w n T _ (by intro j hj; simp [hj])
/-- copy(t, s), t as long as s. -/
theorem copy_str {w w0 : World} {g n cap : Nat} {bs : List UInt8} (s : ByteArray) (h : BRow w g bs) (hb : bs.length = s.size) (hn : n = s.size) (hf : Fr w0 w) (hg : w0.heap.size ≤ g) :
    ∃ w1, (Builtin.copy_ #[70, 9] 3 #[.slice (some ⟨g, 0, none⟩) n cap, .string s]).run Tryz.prog w = .ok (goInt s.size) w1 ∧ Fr w0 w1 ∧ BRow w1 g (L s) := by
  subst hn
  have hz : ∀ w, (Go.sizeOf 5).run Tryz.prog w = .ok 1 w := fun w => by kernel_rfl
  refine ⟨_, run_copy_string w 70 9 3 5 g 0 s.size cap s Tryz.underlying70 hz (Nat.le_refl _) ?_ ?_, ?_, ?_⟩
  · intro j hj; rw [Nat.zero_add, h.cell j (by omega)]; rfl
  · intro j hj; rw [Nat.zero_add]; exact h.frozen j (by omega)
  · exact below_setCells hg _ _ _ hf
  · have := BRow.setCells (L s) 0 bs w h (by rw [L_length]; omega)
    rw [List.take_zero, List.nil_append, List.drop_eq_nil_of_le (by rw [L_length]; omega), List.append_nil] at this
    exact this
end Go.Proofs.YtibcegbacnjmfaaGreatDoor
