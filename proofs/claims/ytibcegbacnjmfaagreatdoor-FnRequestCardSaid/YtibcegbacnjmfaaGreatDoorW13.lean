import Derived.Test.YtibcegbacnjmfaaGreatDoorW4
import Derived.Test.YtibcegbacnjmfaaGreatDoorP
namespace Go.Proofs.YtibcegbacnjmfaaGreatDoor
set_option linter.unusedVariables false
set_option linter.unusedSimpArgs false
open Go.RowKit

set_option maxRecDepth 100000 in
set_option maxHeartbeats 4000000 in
theorem validUserinfo_any (t : ByteArray) (w : World) (hs : t.size ≤ 35184372088832) :
    Calls Tryz.prog 72 #[.string t] w fun e w' => e = .returned (.bool (NU.validUserinfo (L t))) ∧ Fr w w' := by
  go_enter Tryz.func72, Tryz.ntmps72
  go_wp2
  go_loopw [] (fun wr => ∃ k : Nat, k ≤ t.size ∧ wr = w.iter t k ∧ Hid (NU.validUserinfo (L t) = NU.validUserinfo ((L t).drop k))) (fun wr => t.size - wr.iterPos w.heap.size)
  case atStart => exact ⟨0, by omega, rfl, by simp [Hid]⟩
  case round =>
    obtain ⟨k, hk, rfl, HS⟩ := hrel
    by_cases hlt : k < t.size
    · have HI : Hid (NU.validUserinfo ((L t).drop k) = (NU.uiOk t[k] && NU.validUserinfo ((L t).drop (k + 1)))) := by
        show _ = _
        rw [drop_cons t k hlt, NU.vui_cons]
      by_cases ha : (t[k]).toNat < 128
      · have hnx : ∀ ty, (Instr.next (.pointer (some ⟨w.heap.size, 0, none⟩)) true ty).run Tryz.prog (w.iter t k) = _ := fun ty => run_next_ascii w t k ty hlt ha
        have hu := u8_lt t[k]
        by_cases hg : NU.uiOk t[k] = true
        · have h3 : (65 ≤ (t[k].toNat : Int) ∧ (t[k].toNat : Int) ≤ 90) ∨ (97 ≤ (t[k].toNat : Int) ∧ (t[k].toNat : Int) ≤ 122) ∨ (48 ≤ (t[k].toNat : Int) ∧ (t[k].toNat : Int) ≤ 57) ∨ (t[k].toNat : Int) = 45 ∨ (t[k].toNat : Int) = 46 ∨ (t[k].toNat : Int) = 95 ∨ (t[k].toNat : Int) = 58 ∨ (t[k].toNat : Int) = 126 ∨ (t[k].toNat : Int) = 33 ∨ (t[k].toNat : Int) = 36 ∨ (t[k].toNat : Int) = 38 ∨ (t[k].toNat : Int) = 39 ∨ (t[k].toNat : Int) = 40 ∨ (t[k].toNat : Int) = 41 ∨ (t[k].toNat : Int) = 42 ∨ (t[k].toNat : Int) = 43 ∨ (t[k].toNat : Int) = 44 ∨ (t[k].toNat : Int) = 59 ∨ (t[k].toNat : Int) = 61 ∨ (t[k].toNat : Int) = 37 ∨ (t[k].toNat : Int) = 64 := by
            have := hg
            simp [NU.uiOk, NU.isAlpha, NU.isDigit, NU.mem, ← UInt8.toNat_inj] at this
            omega
          have HG := Lib.hid hg
          clear hg
          rcases h3 with ⟨h3, h4⟩ | ⟨h3, h4⟩ | ⟨h3, h4⟩ | h3 | h3 | h3 | h3 | h3 | h3 | h3 | h3 | h3 | h3 | h3 | h3 | h3 | h3 | h3 | h3 | h3 | h3
          all_goals
            go_wp2
            go_roundw
            case rel => exact ⟨k + 1, by omega, rfl, by show _ = _; rw [HS.out, HI.out, HG.out]; rfl⟩
            case measure => simp; omega
        · have hg : NU.uiOk t[k] = false := by simpa using hg
          have h3 : ¬ (65 ≤ (t[k].toNat : Int) ∧ (t[k].toNat : Int) ≤ 90) ∧ ¬ (97 ≤ (t[k].toNat : Int) ∧ (t[k].toNat : Int) ≤ 122) ∧ ¬ (48 ≤ (t[k].toNat : Int) ∧ (t[k].toNat : Int) ≤ 57) ∧ ¬ ((t[k].toNat : Int) = 45 ∨ (t[k].toNat : Int) = 46 ∨ (t[k].toNat : Int) = 95 ∨ (t[k].toNat : Int) = 58 ∨ (t[k].toNat : Int) = 126 ∨ (t[k].toNat : Int) = 33 ∨ (t[k].toNat : Int) = 36 ∨ (t[k].toNat : Int) = 38 ∨ (t[k].toNat : Int) = 39 ∨ (t[k].toNat : Int) = 40 ∨ (t[k].toNat : Int) = 41 ∨ (t[k].toNat : Int) = 42 ∨ (t[k].toNat : Int) = 43 ∨ (t[k].toNat : Int) = 44 ∨ (t[k].toNat : Int) = 59 ∨ (t[k].toNat : Int) = 61 ∨ (t[k].toNat : Int) = 37 ∨ (t[k].toNat : Int) = 64) := by
            have := hg
            simp [NU.uiOk, NU.isAlpha, NU.isDigit, NU.mem, ← UInt8.toNat_inj] at this
            omega
          have HG := Lib.hid hg
          clear hg
          have hfin : Calls Tryz.prog 72 #[.string t] w (fun _ _ => True) ∨ True := .inr trivial
          clear hfin
          obtain ⟨h4, h5, h6, h7⟩ := h3
          have h4' : (t[k].toNat : Int) < 65 ∨ (65 ≤ (t[k].toNat : Int) ∧ 90 < (t[k].toNat : Int)) := by omega
          have h5' : (t[k].toNat : Int) < 97 ∨ (97 ≤ (t[k].toNat : Int) ∧ 122 < (t[k].toNat : Int)) := by omega
          have h6' : (t[k].toNat : Int) < 48 ∨ (48 ≤ (t[k].toNat : Int) ∧ 57 < (t[k].toNat : Int)) := by omega
          have g45 : ((t[k].toNat : Int) == 45) = false := beq_eq_false_iff_ne.2 (by omega)
          have g46 : ((t[k].toNat : Int) == 46) = false := beq_eq_false_iff_ne.2 (by omega)
          have g95 : ((t[k].toNat : Int) == 95) = false := beq_eq_false_iff_ne.2 (by omega)
          have g58 : ((t[k].toNat : Int) == 58) = false := beq_eq_false_iff_ne.2 (by omega)
          have g126 : ((t[k].toNat : Int) == 126) = false := beq_eq_false_iff_ne.2 (by omega)
          have g33 : ((t[k].toNat : Int) == 33) = false := beq_eq_false_iff_ne.2 (by omega)
          have g36 : ((t[k].toNat : Int) == 36) = false := beq_eq_false_iff_ne.2 (by omega)
          have g38 : ((t[k].toNat : Int) == 38) = false := beq_eq_false_iff_ne.2 (by omega)
          have g39 : ((t[k].toNat : Int) == 39) = false := beq_eq_false_iff_ne.2 (by omega)
          have g40 : ((t[k].toNat : Int) == 40) = false := beq_eq_false_iff_ne.2 (by omega)
          have g41 : ((t[k].toNat : Int) == 41) = false := beq_eq_false_iff_ne.2 (by omega)
          have g42 : ((t[k].toNat : Int) == 42) = false := beq_eq_false_iff_ne.2 (by omega)
          have g43 : ((t[k].toNat : Int) == 43) = false := beq_eq_false_iff_ne.2 (by omega)
          have g44 : ((t[k].toNat : Int) == 44) = false := beq_eq_false_iff_ne.2 (by omega)
          have g59 : ((t[k].toNat : Int) == 59) = false := beq_eq_false_iff_ne.2 (by omega)
          have g61 : ((t[k].toNat : Int) == 61) = false := beq_eq_false_iff_ne.2 (by omega)
          have g37 : ((t[k].toNat : Int) == 37) = false := beq_eq_false_iff_ne.2 (by omega)
          have g64 : ((t[k].toNat : Int) == 64) = false := beq_eq_false_iff_ne.2 (by omega)
          clear h4 h5 h6 h7
          rcases h4' with h4 | ⟨h4, h4'⟩
          all_goals rcases h5' with h5 | ⟨h5, h5'⟩
          all_goals rcases h6' with h6 | ⟨h6, h6'⟩
          all_goals first
            | (exfalso; omega)
            | (go_wp2
               go_ret
               exact ⟨ret_bool (by rw [HS.out, HI.out, HG.out]; rfl), (Fr.refl _).iter _ _⟩)
      · have hg : NU.uiOk t[k] = false := by
          simp [NU.uiOk, NU.isAlpha, NU.isDigit, NU.mem, ← UInt8.toNat_inj]
          omega
        have HG := Lib.hid hg
        obtain ⟨h1, h2⟩ := decode_hi t k hlt ha
        have hnx : ∀ ty, (Instr.next (.pointer (some ⟨w.heap.size, 0, none⟩)) true ty).run Tryz.prog (w.iter t k) = _ := fun ty => run_next_any w t k ty hlt
        clear hg
        have h3 : 128 ≤ ((Utf8.decode t k).1 : Int) := by omega
        have h4 : 65 ≤ ((Utf8.decode t k).1 : Int) := by omega
        have h5 : 97 ≤ ((Utf8.decode t k).1 : Int) := by omega
        have h6 : 48 ≤ ((Utf8.decode t k).1 : Int) := by omega
        have h7 : ¬ ((Utf8.decode t k).1 : Int) ≤ 90 := by omega
        have h8 : ¬ ((Utf8.decode t k).1 : Int) ≤ 122 := by omega
        have h9 : ¬ ((Utf8.decode t k).1 : Int) ≤ 57 := by omega
        have g45 : (((Utf8.decode t k).1 : Int) == 45) = false := beq_eq_false_iff_ne.2 (by omega)
        have g46 : (((Utf8.decode t k).1 : Int) == 46) = false := beq_eq_false_iff_ne.2 (by omega)
        have g95 : (((Utf8.decode t k).1 : Int) == 95) = false := beq_eq_false_iff_ne.2 (by omega)
        have g58 : (((Utf8.decode t k).1 : Int) == 58) = false := beq_eq_false_iff_ne.2 (by omega)
        have g126 : (((Utf8.decode t k).1 : Int) == 126) = false := beq_eq_false_iff_ne.2 (by omega)
        have g33 : (((Utf8.decode t k).1 : Int) == 33) = false := beq_eq_false_iff_ne.2 (by omega)
        have g36 : (((Utf8.decode t k).1 : Int) == 36) = false := beq_eq_false_iff_ne.2 (by omega)
        have g38 : (((Utf8.decode t k).1 : Int) == 38) = false := beq_eq_false_iff_ne.2 (by omega)
        have g39 : (((Utf8.decode t k).1 : Int) == 39) = false := beq_eq_false_iff_ne.2 (by omega)
        have g40 : (((Utf8.decode t k).1 : Int) == 40) = false := beq_eq_false_iff_ne.2 (by omega)
        have g41 : (((Utf8.decode t k).1 : Int) == 41) = false := beq_eq_false_iff_ne.2 (by omega)
        have g42 : (((Utf8.decode t k).1 : Int) == 42) = false := beq_eq_false_iff_ne.2 (by omega)
        have g43 : (((Utf8.decode t k).1 : Int) == 43) = false := beq_eq_false_iff_ne.2 (by omega)
        have g44 : (((Utf8.decode t k).1 : Int) == 44) = false := beq_eq_false_iff_ne.2 (by omega)
        have g59 : (((Utf8.decode t k).1 : Int) == 59) = false := beq_eq_false_iff_ne.2 (by omega)
        have g61 : (((Utf8.decode t k).1 : Int) == 61) = false := beq_eq_false_iff_ne.2 (by omega)
        have g37 : (((Utf8.decode t k).1 : Int) == 37) = false := beq_eq_false_iff_ne.2 (by omega)
        have g64 : (((Utf8.decode t k).1 : Int) == 64) = false := beq_eq_false_iff_ne.2 (by omega)
        go_wp2
        go_ret
        exact ⟨ret_bool (by rw [HS.out, HI.out, HG.out]; rfl), (Fr.refl _).iter _ _⟩
    · have hnx : ∀ ty, (Instr.next (.pointer (some ⟨w.heap.size, 0, none⟩)) true ty).run Tryz.prog (w.iter t k) = _ := fun ty => run_next_end w t k ty hlt
      go_wp2
      go_ret
      exact ⟨ret_bool (by rw [HS.out, drop_end t k (by omega)]; rfl), (Fr.refl _).iter _ _⟩

end Go.Proofs.YtibcegbacnjmfaaGreatDoor
