import Derived.Test.YtlholchmgheemaaDoorW58
import Derived.Test.YtlholchmgheemaaDoorW25
namespace Go.Proofs.YtlholchmgheemaaDoor
set_option linter.unusedVariables false
set_option linter.unusedSimpArgs false
open Go.RowKit Go.Maps

def sleft (q m : Value) : Nat := match m with | .bool true => strLen q + 1 | _ => 0
def srem (m : Bool) (t : List UInt8) : Nat := if m then NU.cnt 38 t + 1 else 0
theorem index_fr (s t : ByteArray) (n : Nat) (hn : n = NU.index (L s) (L t)) (hs : s.size ≤ 35184372088832) (ht : t.size ≤ 35184372088832) (w : World) :
    Calls Tryd.prog 18 #[.string s, .string t] w fun e w' => e = .returned (.int .i64 (n : Nat)) ∧ Fr w w' := by
  refine (index_any s t w hs ht).mono ?_
  rintro e w' ⟨rfl, k, rfl⟩
  rw [hn]
  exact ⟨rfl, (Fr.refl w).drewN k⟩
theorem plus_named (u p : ByteArray) (hp : p = mk (NU.plus (L u))) (hs : u.size ≤ 35184372088832) (w : World) :
    Calls Tryd.prog 20 #[.string u] w fun e w' => e = .returned (.string p) ∧ Fr w w' := by
  rw [hp]; exact plus_any u w hs
theorem sdec_any (u p : ByteArray) (hp : p = mk (NU.plus (L u))) (hs : u.size ≤ 35184372088832) (w : World) :
    Calls Tryd.prog 19 #[.string p] w fun e w' => e = .returned (.tuple #[.string (mk ((NU.dec true (L u)).getD [])), .bool (NU.dec true (L u)).isSome]) ∧ Fr w w' := by
  have hz : p.size ≤ 35184372088832 := by rw [hp, mk_size, plus_len, L_length]; exact hs
  have h := Decode_any p w hz
  rw [hp, L_mk, NU.dec_plus _ _ (Nat.le_refl _)] at h
  rw [hp]; exact h
theorem sstep_empty {one : List UInt8} (h : one = []) (M : NU.QM) (o u : Bool) : NU.sstep one (M, o, u) = (M, o, false) := by unfold NU.sstep; rw [if_pos h]
theorem sstep_bad {one : List UInt8} (h0 : one ≠ []) (h : NU.mem one 59 = true ∨ NU.dec true (NU.cutB [61] one) = none ∨ NU.dec true (NU.cutA [61] one) = none) (M : NU.QM) (o u : Bool) : NU.sstep one (M, o, u) = (M, false, u) := by
  have : NU.setting one = none := by
    unfold NU.setting
    cases hm : NU.mem one 59
    · rw [hm] at h
      rw [if_neg (by simp)]
      rcases h with h | h | h
      · cases h
      · rw [h]
      · rw [h]; cases NU.dec true (NU.cutB [61] one) <;> rfl
    · rw [if_pos rfl]
  unfold NU.sstep
  rw [if_neg h0, this]
theorem sstep_good {one k x : List UInt8} (h0 : one ≠ []) (h : NU.mem one 59 = false) (hd : NU.dec true (NU.cutB [61] one) = some k) (hd' : NU.dec true (NU.cutA [61] one) = some x) (M : NU.QM) (o u : Bool) : NU.sstep one (M, o, u) = (NU.qput k x M, o, u) := by
  unfold NU.sstep NU.setting
  rw [if_neg h0, if_neg (by simp [h]), hd, hd']
/-- What is left of the text after a setting, whether there is any, and what a round does. -/
theorem sround (t : ByteArray) (n : Nat) (hn : n = NU.index (L t) (L ⟨#[38]⟩)) : ∃ (one t' : ByteArray) (nm : Bool),
    t.extract 0 n = one ∧ one.size ≤ t.size ∧ ((n < t.size ∧ nm = true ∧ t.extract (n + 1) t.size = t') ∨ (n = t.size ∧ nm = false ∧ t' = t ∧ one = t)) ∧ srem nm (L t') + 1 ≤ srem true (L t) ∧ t'.size ≤ t.size ∧
    sleft (.string t') (.bool nm) < sleft (.string t) (.bool true) ∧ ∀ st, NU.srun (L t) st = if nm then NU.srun (L t') (NU.sstep (L one) st) else NU.sstep (L one) st := by
  rw [show L ⟨#[38]⟩ = [38] from rfl] at hn
  have hle : n ≤ t.size := by rw [hn, ← L_length]; exact NU.index_le _ _
  have h1 : L (t.extract 0 n) = (L t).take n := by rw [ext_to, L_mk]
  have hz : (t.extract 0 n).size ≤ t.size := by rw [← L_length, h1, List.length_take, L_length]; omega
  by_cases hlt : n < t.size
  · have h2 : L (t.extract (n + 1) t.size) = (L t).drop (n + 1) := by rw [ext_from, L_mk]
    have hz2 : (t.extract (n + 1) t.size).size = t.size - (n + 1) := by rw [← L_length, h2, List.length_drop, L_length]
    have hl : NU.index (L t) [38] < (L t).length := by rw [← hn, L_length]; exact hlt
    refine ⟨_, t.extract (n + 1) t.size, true, rfl, hz, .inl ⟨hlt, rfl, rfl⟩, ?_, by omega, ?_, fun st => ?_⟩
    · have := NU.cnt_drop _ hl
      rw [h2, hn]; unfold srem; simp; omega
    · show _ + 1 < _ + 1; show (t.extract (n + 1) t.size).size + 1 < t.size + 1; omega
    · rw [h1, h2, if_pos rfl, NU.srun_more hl, hn]
  · have hn2 : n = t.size := by omega
    have hl : ¬ NU.index (L t) [38] < (L t).length := by rw [← hn, L_length]; exact hlt
    have ho : t.extract 0 n = t := by
      rw [ext_to, List.take_of_length_le (by rw [L_length]; omega), mk_L]
    refine ⟨_, t, false, rfl, hz, .inr ⟨hn2, rfl, rfl, ho⟩, by unfold srem; simp, Nat.le_refl _, Nat.succ_pos _, fun st => ?_⟩
    rw [ho, if_neg (by simp), NU.srun_last hl]
theorem sparse_start (s : List UInt8) : NU.sparse s = if (!decide (s = [])) then NU.srun s ([], true, true) else ([], true, true) := by
  unfold NU.sparse
  by_cases h : s = [] <;> simp [h]
theorem qput_len (k x : List UInt8) (M : NU.QM) : (NU.qput k x M).length ≤ M.length + 1 := NU.upd_len _ _ _
end Go.Proofs.YtlholchmgheemaaDoor
