import Derived.Test.YtlholchmgheemaaDoorSc
import Derived.Test.YtlholchmgheemaaDoorW53
namespace Go.Proofs.YtlholchmgheemaaDoor
set_option linter.unusedVariables false
set_option linter.unusedSimpArgs false
open Go.RowKit

/-- All below R but block b is as it was. -/
structure KR (R b : Nat) (w w' : World) : Prop where
  os : w'.os = w.os
  tape : w'.tape = w.tape
  output : w'.output = w.output
  size : w.heap.size ≤ w'.heap.size
  block : ∀ x, x < R → x ≠ b → w'.heap[x]? = w.heap[x]?
theorem KR.refl (R b : Nat) (w : World) : KR R b w w := ⟨rfl, rfl, rfl, Nat.le_refl _, fun _ _ _ => rfl⟩
theorem KR.trans {R b : Nat} {w w' w'' : World} (h : KR R b w w') (h' : KR R b w' w'') : KR R b w w'' :=
  ⟨h'.os.trans h.os, h'.tape.trans h.tape, h'.output.trans h.output, Nat.le_trans h.size h'.size, fun x hx hb => (h'.block x hx hb).trans (h.block x hx hb)⟩
theorem KR.below {R b B : Nat} {w w' : World} (h : KR R b w w') (hb : B ≤ b) (hR : b < R) : Below B w w' :=
  ⟨h.os, h.tape, h.output, h.size, fun x hx => h.block x (by omega) (by omega)⟩
/-- A builder at b whose bytes lie above R. -/
def SR (R b : Nat) (p : Value) (bs : List Value) (w : World) : Prop :=
  b < R ∧ R ≤ w.heap.size ∧ ∃ v, w.heap[b]? = some (.cells #[p, v] 69 (0, 0)) ∧ w.ownsRow R 5 1 v bs.length bs
def ISR (R b : Nat) (bs : List Value) (w : World) : Prop := SR R b (.pointer none) bs w ∨ SR R b (.pointer (some ⟨b, 0, none⟩)) bs w
theorem SR.sb {R b : Nat} {p : Value} {bs : List Value} {w : World} (h : SR R b p bs w) : SB b b p bs w := by
  obtain ⟨hb, hR, v, hv, ho⟩ := h
  refine ⟨Nat.le_refl _, v, hv, ownsRow_mono ho (by omega), fun e => ?_⟩
  have := (ho.lt b e).1; omega
theorem ISR.isb {R b : Nat} {bs : List Value} {w : World} (h : ISR R b bs w) : ISB b b bs w := by
  rcases h with h | h
  · exact .inl h.sb
  · exact .inr h.sb
theorem ISR.fr {R b : Nat} {bs : List Value} {w w' : World} (h : ISR R b bs w) (f : Fr w w') : ISR R b bs w' := by
  have go : ∀ p, SR R b p bs w → SR R b p bs w' := by
    rintro p ⟨hb, hR, v, hv, ho⟩
    exact ⟨hb, Nat.le_trans hR f.size, v, (f.block b (by omega)).trans hv, ho.kept (row := none) ⟨f.os, f.tape, f.output, f.size, fun k hk _ => f.block k hk⟩ (by cases v.ownBlock <;> simp)⟩
  rcases h with h | h
  · exact .inl (go _ h)
  · exact .inr (go _ h)
theorem sbCopyCheckR (R b : Nat) (bs : List Value) (w : World) (h : ISR R b bs w) :
    Calls Tryd.prog 49 #[.pointer (some ⟨b, 0, none⟩)] w fun e w' => e = .returned (.tuple #[]) ∧ (SR R b (.pointer (some ⟨b, 0, none⟩)) bs w' ∧ KR R b w w') := by
  rcases h with h | h
  · have hs := h.sb
    refine (sbCopyCheck_fresh b w hs.cell0 hs.shape hs.frozen0).mono ?_
    rintro e w' ⟨rfl, rfl⟩
    obtain ⟨hb, hR, v, hv, ho⟩ := h
    refine ⟨rfl, ⟨hb, by simpa [World.setCell] using hR, v, ?_, ?_⟩, ?_⟩
    · simp [World.setCell, Array.getElem?_modify, hv]
    · exact ho.kept (setCell_grown _ _ _ _) (by
        cases hq : v.ownBlock with
        | none => left; rfl
        | some k => right; have := (ho.lt k hq).1; simp; omega)
    · exact ⟨rfl, rfl, rfl, by simp [World.setCell], fun x hx hxb => (setCell_grown w b 0 (.pointer (some ⟨b, 0, none⟩))).block x (by omega) (by simpa using hxb)⟩
  · refine (sbCopyCheck_used b w h.sb.cell0).mono ?_
    rintro e w' ⟨rfl, rfl⟩
    exact ⟨rfl, h, KR.refl _ _ _⟩
/-- What is left when the new row is stored. -/
theorem SR.put {R b : Nat} {w w1 w2 : World} {v v' p : Value} {bs bs' : List Value} (hb : b < R) (hR : R ≤ w1.heap.size) (hk : KR R b w w1) (hv : w1.heap[b]? = some (.cells #[p, v] 69 (0, 0))) (ho : w1.ownsRow R 5 1 v bs.length bs)
    (hg : w1.grownBy w2 v.ownBlock) (ho' : w2.ownsRow R 5 1 v' bs'.length bs') :
    SR R b p bs' (w2.setCell ⟨b, 1, none⟩ v') ∧ KR R b w (w2.setCell ⟨b, 1, none⟩ v') := by
  have hne : ∀ x, x < R → some x ≠ v.ownBlock := fun x hx e => by have := (ho.lt x e.symm).1; omega
  have hb2 : w2.heap[b]? = some (.cells #[p, v] 69 (0, 0)) := by rw [hg.block b (by omega) (hne b hb)]; exact hv
  refine ⟨⟨hb, by have := hg.size; simp [World.setCell]; omega, v', ?_, ?_⟩, hk.trans ⟨?_, ?_, ?_, ?_, fun x hx hxb => ?_⟩⟩
  · simp [World.setCell, Array.getElem?_modify, hb2]
  · exact ho'.kept (setCell_grown _ _ _ _) (by
      cases hq : v'.ownBlock with
      | none => left; rfl
      | some k => right; have := (ho'.lt k hq).1; simp; omega)
  · exact hg.os
  · exact hg.tape
  · exact hg.output
  · have := hg.size; simp [World.setCell]; exact this
  · rw [(setCell_grown w2 b 1 v').block x (by have := hg.size; omega) (by simpa using hxb), hg.block x (by omega) (hne x hx)]
set_option maxHeartbeats 2000000 in
set_option maxRecDepth 100000 in
theorem sbWriteByteR (R b : Nat) (bs : List Value) (c : Int) (w : World) (h : ISR R b bs w) (hlen : bs.length + 1 ≤ 140737488355328) :
    Calls Tryd.prog 36 #[.pointer (some ⟨b, 0, none⟩), .int .u8 c] w fun e w' => e = .returned .nilIface ∧ (SR R b (.pointer (some ⟨b, 0, none⟩)) (bs ++ [.int .u8 c]) w' ∧ KR R b w w') := by
  obtain ⟨i0, hi, hz0, hz1, hz2⟩ := info_parts infoByte
  go_enter Tryd.func36, Tryd.ntmps36
  go_wp2_with (go_at_call 49; refine (sbCopyCheckR R b bs _ h).mono ?_)
  rintro e w1 ⟨rfl, h1, hk1⟩
  obtain ⟨hb, hR, v, hbk, hown⟩ := h1
  have c0 : w1.cell? ⟨b, 0, none⟩ = some (.pointer (some ⟨b, 0, none⟩)) := by rw [Lib.cell_of_heap hbk]; rfl
  have c1 : w1.cell? ⟨b, 1, none⟩ = some v := by rw [Lib.cell_of_heap hbk]; rfl
  go_wp2_with (at_builtin; refine wpList_append_own _ rfl _ _ 58 rfl R 5 i0 (.int .u8 0) 1 1 Tryd.underlying58 hi hz0 hz1 hz2 rfl (by decide) _ _ _ rfl (hown.alloc _) ⟨w1.heap.size, 0, none⟩ 1 1 [.int .u8 c] rfl rfl ?c1 ?c2 ?c3 ?c4 ?c5 ?_)
  case c1 =>
    intro j u hu
    match j, hu with
    | 0, hu => simp at hu; subst hu; simp [Addr.add]
  case c2 => intro u hu; simp at hu; subst hu; rfl
  case c3 => unfold maxLen; omega
  case c4 => omega
  case c5 => simp; omega
  intro v' w2 hown' hgrow0 _
  have hgrow : w1.grownBy w2 v.ownBlock := (World.grownBy_alloc _ _ _).trans hgrow0
  have hne : ∀ x, x < R → some x ≠ v.ownBlock := fun x hx e => by have := (hown.lt x e.symm).1; omega
  have hb2 : w2.heap[b]? = some (.cells #[.pointer (some ⟨b, 0, none⟩), v] 69 (0, 0)) := by rw [hgrow.block b (by omega) (hne b hb)]; exact hbk
  have d0 : w2.cell? ⟨b, 0, none⟩ = some (.pointer (some ⟨b, 0, none⟩)) := by rw [Lib.cell_of_heap hb2]; rfl
  have d1 : w2.cell? ⟨b, 1, none⟩ = some v := by rw [Lib.cell_of_heap hb2]; rfl
  have f1 : w2.frozen? ⟨b, 1, none⟩ = false := Lib.frozen_of_heap hb2 1
  obtain ⟨g, cap, rfl⟩ : ∃ g cap, v' = .slice (some ⟨g, 0, none⟩) (bs.length + 1) cap := by
    rcases hown'.2 with ⟨_, h0⟩ | ⟨g, cap, cur, hv, _⟩
    · omega
    · exact ⟨g, cap, hv⟩
  go_wp2
  go_ret
  exact ⟨rfl, SR.put hb hR hk1 hbk hown hgrow (by simpa using hown')⟩
set_option maxHeartbeats 2000000 in
set_option maxRecDepth 100000 in
theorem sbWriteStringR (R b : Nat) (bs : List Value) (s : ByteArray) (w : World) (h : ISR R b bs w) (hlen : bs.length + s.size ≤ 140737488355328) :
    Calls Tryd.prog 37 #[.pointer (some ⟨b, 0, none⟩), .string s] w fun e w' => e = .returned (.tuple #[.int .i64 s.size, .nilIface]) ∧ (SR R b (.pointer (some ⟨b, 0, none⟩)) (bs ++ Lib.strCells s) w' ∧ KR R b w w') := by
  obtain ⟨i0, hi, hz0, hz1, hz2⟩ := info_parts infoByte
  go_enter Tryd.func37, Tryd.ntmps37
  go_wp2_with (go_at_call 49; refine (sbCopyCheckR R b bs _ h).mono ?_)
  rintro e w1 ⟨rfl, h1, hk1⟩
  obtain ⟨hb, hR, v, hbk, hown⟩ := h1
  have c0 : w1.cell? ⟨b, 0, none⟩ = some (.pointer (some ⟨b, 0, none⟩)) := by rw [Lib.cell_of_heap hbk]; rfl
  have c1 : w1.cell? ⟨b, 1, none⟩ = some v := by rw [Lib.cell_of_heap hbk]; rfl
  go_wp2_with (at_builtin; refine Lib.wpList_append_own_string _ rfl _ _ 58 9 rfl R 5 i0 Tryd.underlying58 Tryd.underlying9 hi hz0 hz1 hz2 _ _ _ rfl hown s rfl ?c3 ?c4 ?c5 ?_)
  case c3 => unfold maxLen; omega
  case c4 => omega
  case c5 => omega
  intro v' w2 hown' hgrow _
  have hne : ∀ x, x < R → some x ≠ v.ownBlock := fun x hx e => by have := (hown.lt x e.symm).1; omega
  have hb2 : w2.heap[b]? = some (.cells #[.pointer (some ⟨b, 0, none⟩), v] 69 (0, 0)) := by rw [hgrow.block b (by omega) (hne b hb)]; exact hbk
  have d0 : w2.cell? ⟨b, 0, none⟩ = some (.pointer (some ⟨b, 0, none⟩)) := by rw [Lib.cell_of_heap hb2]; rfl
  have d1 : w2.cell? ⟨b, 1, none⟩ = some v := by rw [Lib.cell_of_heap hb2]; rfl
  have f1 : w2.frozen? ⟨b, 1, none⟩ = false := Lib.frozen_of_heap hb2 1
  obtain ⟨ao, n', cap, rfl⟩ : ∃ ao n' cap, v' = .slice ao n' cap := by
    rcases hown'.2 with ⟨hv, _⟩ | ⟨g, cap, cur, hv, _⟩
    · exact ⟨_, _, _, hv⟩
    · exact ⟨_, _, _, hv⟩
  go_wp2
  go_ret2
  exact ⟨rfl, SR.put hb hR hk1 hbk hown hgrow (by simpa [Lib.strCells_length] using hown')⟩
end Go.Proofs.YtlholchmgheemaaDoor
