import Derived.Test.YtibcegbacnjmfaaDoorW3
import Derived.Laws.RangeAny
namespace Go.Proofs.YtibcegbacnjmfaaDoor
set_option linter.unusedVariables false
set_option linter.unusedSimpArgs false
open Go.RowKit

theorem decode_hi (s : ByteArray) (pos : Nat) (h : pos < s.size) (ha : ¬ (s[pos]'h).toNat < 128) : 128 ≤ (Utf8.decode s pos).1 ∧ 1 ≤ (Utf8.decode s pos).2 := decode_high s pos h (by omega)
theorem Fr.iter {a b : World} (h : Fr a b) (s : ByteArray) (p : Nat) : Fr a (b.iter s p) := h.alloc _
theorem drop_cons' (l : List UInt8) (k : Nat) (s : ByteArray) (hs : L s = l) (h : k < s.size) : l.drop k = s[k] :: l.drop (k + 1) := by subst hs; exact drop_cons s k h

set_option maxHeartbeats 400000 in
theorem validOptionalPort_any (s : ByteArray) (w : World) (hs : s.size ≤ 35184372088832) :
    Calls Tryd.prog 80 #[.string s] w fun e w' => e = .returned (.bool (NU.optPort (L s))) ∧ Fr w w' := by
  by_cases h0 : s.size = 0
  · have hl : L s = [] := List.eq_nil_of_length_eq_zero (by rw [L_length]; exact h0)
    have HL := Lib.hid hl
    have he : s.toList = [] := by rw [Lib.toList_data]; exact hl
    clear hl h0
    go_enter Tryd.func80, Tryd.ntmps80
    go_wp2
    go_ret
    exact ⟨ret_bool (by rw [HL.out]; rfl), Fr.refl _⟩
  · have hp : 0 < s.size := by omega
    have hd := drop_cons s 0 hp
    simp only [List.drop_zero, Nat.zero_add] at hd
    have he : s.toList ≠ [] := by rw [Lib.toList_data]; show L s ≠ _; rw [hd]; simp
    have he' : s.toList.isEmpty = false := by simpa using he
    have HD := Lib.hid hd
    clear h0 hd
    by_cases hc : ((s[0].toNat : Int) == 58) = true
    · have HC : Hid ((s[0] == 58) = true) := by show _ = _; rw [← u8_eq]; exact hc
      have HO : Hid (NU.optPort (L s) = NU.allDigits ((L s).drop 1)) := by show _ = _; rw [HD.out, NU.optPort, HC.out]; rfl
      have hne : ((s[0].toNat : Int) != 58) = false := by simp only [bne, hc]; rfl
      have hz : 1 ≤ s.size := hp
      obtain ⟨t, ht⟩ : ∃ t, t = s.extract 1 s.size := ⟨_, rfl⟩
      have HT : Hid (L t = (L s).drop 1) := by show _ = _; rw [ht, ext_from, L_mk]
      have ht' := ht.symm
      clear ht
      go_enter Tryd.func80, Tryd.ntmps80
      go_wp2
      go_loopw [] (fun wr => ∃ k : Nat, k ≤ t.size ∧ wr = w.iter t k ∧ Hid (NU.allDigits (L t) = NU.allDigits ((L t).drop k))) (fun wr => t.size - wr.iterPos w.heap.size)
      case atStart => exact ⟨0, by omega, rfl, by simp [Hid]⟩
      case round =>
        obtain ⟨k, hk, rfl, HS⟩ := hrel
        by_cases hlt : k < t.size
        · have HI : Hid (NU.allDigits ((L t).drop k) = (NU.isDigit t[k] && NU.allDigits ((L t).drop (k + 1)))) := by
            show _ = _
            rw [drop_cons t k hlt]; simp [NU.allDigits]
          by_cases ha : (t[k]).toNat < 128
          · have hnx : ∀ ty, (Instr.next (.pointer (some ⟨w.heap.size, 0, none⟩)) true ty).run Tryd.prog (w.iter t k) = _ := fun ty => run_next_ascii w t k ty hlt ha
            by_cases hg : NU.isDigit t[k] = true
            · have hg1 : 48 ≤ (t[k].toNat : Int) := by simp [NU.isDigit] at hg; omega
              have hg2 : (t[k].toNat : Int) ≤ 57 := by simp [NU.isDigit] at hg; omega
              have HG := Lib.hid hg
              clear hg
              go_wp2
              go_roundw
              case rel => exact ⟨k + 1, by omega, rfl, by show _ = _; rw [HS.out, HI.out, HG.out]; rfl⟩
              case measure => simp; omega
            · have hg : NU.isDigit t[k] = false := by simpa using hg
              have hg1 : (t[k].toNat : Int) < 48 ∨ 57 < (t[k].toNat : Int) := by simp [NU.isDigit] at hg; omega
              have HG := Lib.hid hg
              clear hg
              rcases hg1 with hg1 | hg1
              all_goals
                go_wp2
                go_ret
                exact ⟨ret_bool (by rw [HO.out, ← HT.out, HS.out, HI.out, HG.out]; rfl), (Fr.refl _).iter _ _⟩
          · have hg : NU.isDigit t[k] = false := by simp [NU.isDigit]; omega
            have HG := Lib.hid hg
            obtain ⟨h1, h2⟩ := decode_hi t k hlt ha
            have hnx : ∀ ty, (Instr.next (.pointer (some ⟨w.heap.size, 0, none⟩)) true ty).run Tryd.prog (w.iter t k) = _ := fun ty => run_next_any w t k ty hlt
            clear hg
            have h3 : 57 < ((Utf8.decode t k).1 : Int) := by omega
            have h4 : ¬ ((Utf8.decode t k).1 : Int) < 48 := by omega
            go_wp2
            go_ret
            exact ⟨ret_bool (by rw [HO.out, ← HT.out, HS.out, HI.out, HG.out]; rfl), (Fr.refl _).iter _ _⟩
        · have hnx : ∀ ty, (Instr.next (.pointer (some ⟨w.heap.size, 0, none⟩)) true ty).run Tryd.prog (w.iter t k) = _ := fun ty => run_next_end w t k ty hlt
          go_wp2
          go_ret
          exact ⟨ret_bool (by rw [HO.out, ← HT.out, HS.out, drop_end t k (by omega)]; rfl), (Fr.refl _).iter _ _⟩
    · have hc : ((s[0].toNat : Int) == 58) = false := by simpa using hc
      have HC : Hid ((s[0] == 58) = false) := by show _ = _; rw [← u8_eq]; exact hc
      have HO : Hid (NU.optPort (L s) = false) := by show _ = _; rw [HD.out, NU.optPort, HC.out]; rfl
      have hne : ((s[0].toNat : Int) != 58) = true := by simp only [bne, hc]; rfl
      go_enter Tryd.func80, Tryd.ntmps80
      go_wp2
      go_ret
      exact ⟨ret_bool HO.out.symm, Fr.refl _⟩

end Go.Proofs.YtibcegbacnjmfaaDoor
