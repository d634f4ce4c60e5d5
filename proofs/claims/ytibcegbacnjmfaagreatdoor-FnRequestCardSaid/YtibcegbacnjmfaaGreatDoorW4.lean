import Derived.Test.YtibcegbacnjmfaaGreatDoorW1
import Derived.Laws.RangeAny
import Derived.Test.YtibcegbacnjmfaaGreatDoorP
import Derived.Test.YtibcegbacnjmfaaGreatDoorSc
import Derived.Test.YtibcegbacnjmfaaGreatDoorW32
import Derived.Test.YtibcegbacnjmfaaGreatDoorW8
import Derived.Test.YtibcegbacnjmfaaGreatDoorRow
import Derived.Lib.AppendStr
import Derived.Laws.OwnMore
namespace Go.Proofs.YtibcegbacnjmfaaGreatDoor
set_option linter.unusedVariables false
set_option linter.unusedSimpArgs false
open Go.RowKit

theorem decode_hi (s : ByteArray) (pos : Nat) (h : pos < s.size) (ha : ¬ (s[pos]'h).toNat < 128) : 128 ≤ (Utf8.decode s pos).1 ∧ 1 ≤ (Utf8.decode s pos).2 := decode_high s pos h (by omega)
theorem Fr.iter {a b : World} (h : Fr a b) (s : ByteArray) (p : Nat) : Fr a (b.iter s p) := h.alloc _
theorem drop_cons' (l : List UInt8) (k : Nat) (s : ByteArray) (hs : L s = l) (h : k < s.size) : l.drop k = s[k] :: l.drop (k + 1) := by subst hs; exact drop_cons s k h

set_option maxHeartbeats 400000 in
theorem validOptionalPort_any (s : ByteArray) (w : World) (hs : s.size ≤ 35184372088832) :
    Calls Tryz.prog 84 #[.string s] w fun e w' => e = .returned (.bool (NU.optPort (L s))) ∧ Fr w w' := by
  by_cases h0 : s.size = 0
  · have hl : L s = [] := List.eq_nil_of_length_eq_zero (by rw [L_length]; exact h0)
    have HL := Lib.hid hl
    have he : s.toList = [] := by rw [Lib.toList_data]; exact hl
    clear hl h0
    go_enter Tryz.func84, Tryz.ntmps84
    go_wp2
    go_ret
    exact ⟨ret_bool (by rw [HL.out]; rfl), Fr.refl _⟩
  · have hp : 0 < s.size := by omega
    have hd := drop_cons s 0 hp
    simp only [List.drop_zero, Nat.zero_add] at hd
    have he : s.toList ≠ [] := by rw [Lib.toList_data]; show L s ≠ _; rw [hd]; simp
    have he' : s.toList.isEmpty = false := by simpa using he
    have HD := Lib.hid hd
    clear h0 hd
    by_cases hc : ((s[0].toNat : Int) == 58) = true
    · have HC : Hid ((s[0] == 58) = true) := by show _ = _; rw [← u8_eq]; exact hc
      have HO : Hid (NU.optPort (L s) = NU.allDigits ((L s).drop 1)) := by show _ = _; rw [HD.out, NU.optPort, HC.out]; rfl
      have hne : ((s[0].toNat : Int) != 58) = false := by simp only [bne, hc]; rfl
      have hz : 1 ≤ s.size := hp
      obtain ⟨t, ht⟩ : ∃ t, t = s.extract 1 s.size := ⟨_, rfl⟩
      have HT : Hid (L t = (L s).drop 1) := by show _ = _; rw [ht, ext_from, L_mk]
      have ht' := ht.symm
      clear ht
      go_enter Tryz.func84, Tryz.ntmps84
      go_wp2
      go_loopw [] (fun wr => ∃ k : Nat, k ≤ t.size ∧ wr = w.iter t k ∧ Hid (NU.allDigits (L t) = NU.allDigits ((L t).drop k))) (fun wr => t.size - wr.iterPos w.heap.size)
      case atStart => exact ⟨0, by omega, rfl, by simp [Hid]⟩
      case round =>
        obtain ⟨k, hk, rfl, HS⟩ := hrel
        by_cases hlt : k < t.size
        · have HI : Hid (NU.allDigits ((L t).drop k) = (NU.isDigit t[k] && NU.allDigits ((L t).drop (k + 1)))) := by
            show _ = _
            rw [drop_cons t k hlt]; simp [NU.allDigits]
          by_cases ha : (t[k]).toNat < 128
          · have hnx : ∀ ty, (Instr.next (.pointer (some ⟨w.heap.size, 0, none⟩)) true ty).run Tryz.prog (w.iter t k) = _ := fun ty => run_next_ascii w t k ty hlt ha
            by_cases hg : NU.isDigit t[k] = true
            · have hg1 : 48 ≤ (t[k].toNat : Int) := by simp [NU.isDigit] at hg; omega
              have hg2 : (t[k].toNat : Int) ≤ 57 := by simp [NU.isDigit] at hg; omega
              have HG := Lib.hid hg
              clear hg
              go_wp2
              go_roundw
              case rel => exact ⟨k + 1, by omega, rfl, by show _ = _; rw [HS.out, HI.out, HG.out]; rfl⟩
              case measure => simp; omega
            · have hg : NU.isDigit t[k] = false := by simpa using hg
              have hg1 : (t[k].toNat : Int) < 48 ∨ 57 < (t[k].toNat : Int) := by simp [NU.isDigit] at hg; omega
              have HG := Lib.hid hg
              clear hg
              rcases hg1 with hg1 | hg1
              all_goals
                go_wp2
                go_ret
                exact ⟨ret_bool (by rw [HO.out, ← HT.out, HS.out, HI.out, HG.out]; rfl), (Fr.refl _).iter _ _⟩
          · have hg : NU.isDigit t[k] = false := by simp [NU.isDigit]; omega
            have HG := Lib.hid hg
            obtain ⟨h1, h2⟩ := decode_hi t k hlt ha
            have hnx : ∀ ty, (Instr.next (.pointer (some ⟨w.heap.size, 0, none⟩)) true ty).run Tryz.prog (w.iter t k) = _ := fun ty => run_next_any w t k ty hlt
            clear hg
            have h3 : 57 < ((Utf8.decode t k).1 : Int) := by omega
            have h4 : ¬ ((Utf8.decode t k).1 : Int) < 48 := by omega
            go_wp2
            go_ret
            exact ⟨ret_bool (by rw [HO.out, ← HT.out, HS.out, HI.out, HG.out]; rfl), (Fr.refl _).iter _ _⟩
        · have hnx : ∀ ty, (Instr.next (.pointer (some ⟨w.heap.size, 0, none⟩)) true ty).run Tryz.prog (w.iter t k) = _ := fun ty => run_next_end w t k ty hlt
          go_wp2
          go_ret
          exact ⟨ret_bool (by rw [HO.out, ← HT.out, HS.out, drop_end t k (by omega)]; rfl), (Fr.refl _).iter _ _⟩
    · have hc : ((s[0].toNat : Int) == 58) = false := by simpa using hc
      have HC : Hid ((s[0] == 58) = false) := by show _ = _; rw [← u8_eq]; exact hc
      have HO : Hid (NU.optPort (L s) = false) := by show _ = _; rw [HD.out, NU.optPort, HC.out]; rfl
      have hne : ((s[0].toNat : Int) != 58) = true := by simp only [bne, hc]; rfl
      go_enter Tryz.func84, Tryz.ntmps84
      go_wp2
      go_ret
      exact ⟨ret_bool HO.out.symm, Fr.refl _⟩

end Go.Proofs.YtibcegbacnjmfaaGreatDoor
namespace Go.Proofs.YtibcegbacnjmfaaGreatDoor
set_option linter.unusedVariables false
set_option linter.unusedSimpArgs false
open Go.RowKit

set_option maxHeartbeats 400000 in
theorem LastIndexByteString_any (s : ByteArray) (c : UInt8) (w : World) (hs : s.size ≤ 35184372088832) :
    Calls Tryz.prog 82 #[.string s, .int .u8 (c.toNat : Int)] w fun e w' => e = .returned (.int .i64 (NU.lastIdx c (L s))) ∧ w = w' := by
  go_enter Tryz.func82, Tryz.ntmps82
  go_wp2
  go_loop [5] (fun i => ∃ k : Nat, k ≤ s.size ∧ i = .int .i64 ((k : Int) - 1) ∧ Hid (NU.lastIdx c (L s) = NU.lastIdx c ((L s).take k))) (fun i => ((intOf i) + 1).toNat)
  case atStart => exact ⟨s.size, by omega, rfl, by show _ = _; rw [List.take_of_length_le (by rw [L_length]; omega)]⟩
  case round =>
    obtain ⟨k, hk, rfl, HS⟩ := hrel
    by_cases h0 : k = 0
    · have h1 : ¬ (1 : Int) ≤ k := by omega
      have h2 : ¬ (0 : Int) ≤ (k : Int) - 1 := by omega
      have HF : Hid (NU.lastIdx c (L s) = -1) := by show _ = _; rw [HS.out, h0]; rfl
      clear HS h0
      go_wp2
      go_ret
      exact ⟨ret_int HF.out.symm, rfl⟩
    · obtain ⟨m, rfl⟩ : ∃ m, k = m + 1 := ⟨k - 1, by omega⟩
      have hm : m < s.size := by omega
      have HI : Hid (NU.lastIdx c ((L s).take (m + 1)) = if s[m] == c then (m : Int) else NU.lastIdx c ((L s).take m)) := by
        show _ = _
        have e1 : (L s).take (m + 1) = (L s).take m ++ [s[m]] := by
          rw [List.take_succ_eq_append_getElem (by rw [L_length]; exact hm)]; rfl
        have e2 : ((L s).take m).length = m := by rw [List.length_take, L_length]; omega
        rw [e1, NU.lastIdx_snoc, e2]
      have e3 : (((m + 1 : Nat) : Int) - 1) = (m : Int) := by omega
      rw [e3]
      clear h0 e3
      by_cases hc : ((s[m].toNat : Int) == (c.toNat : Int)) = true
      · have HC : Hid ((s[m] == c) = true) := by show _ = _; rw [← u8_eq]; exact hc
        go_wp2
        go_ret
        exact ⟨ret_int (by rw [HS.out, HI.out, HC.out]; rfl), rfl⟩
      · have hc : ((s[m].toNat : Int) == (c.toNat : Int)) = false := by simpa using hc
        have HC : Hid ((s[m] == c) = false) := by show _ = _; rw [← u8_eq]; exact hc
        go_wp2
        go_round
        case rel => exact ⟨m, by omega, rfl, by show _ = _; rw [HS.out, HI.out, HC.out]; rfl⟩
        case measure => first | (simp [intOf]; done) | (simp [intOf]; omega)

set_option maxHeartbeats 400000 in
theorem slHasPrefix_any (s t : ByteArray) (w : World) (hs : s.size ≤ 35184372088832) (ht : t.size ≤ 35184372088832) :
    Calls Tryz.prog 65 #[.string s, .string t] w fun e w' => e = .returned (.bool (NU.begins (L s) (L t))) ∧ w = w' := by
  by_cases h : t.size ≤ s.size
  all_goals go_enter Tryz.func65, Tryz.ntmps65
  all_goals go_wp2
  all_goals go_ret
  · exact ⟨ret_bool (by rw [NU.begins, Lib.toList_data, Lib.toList_data, Lib.extract_data]; have := Lib.hasPrefix_of_take (L s) (L t); simpa [Lib.hasPrefix, h] using this), rfl⟩
  · exact ⟨ret_bool (by have := Lib.hasPrefix_of_take (L s) (L t); simpa [Lib.hasPrefix, h, NU.begins] using this), rfl⟩
set_option maxHeartbeats 400000 in
theorem HasPrefix_any (s t : ByteArray) (w : World) (hs : s.size ≤ 35184372088832) (ht : t.size ≤ 35184372088832) :
    Calls Tryz.prog 46 #[.string s, .string t] w fun e w' => e = .returned (.bool (NU.begins (L s) (L t))) ∧ w = w' := by
  go_enter Tryz.func46, Tryz.ntmps46
  go_wp2_with (go_at_call 65; refine (slHasPrefix_any _ _ _ hs ht).mono ?_; rintro e w' ⟨rfl, rfl⟩)
  go_ret
  exact ⟨rfl, rfl⟩
set_option maxHeartbeats 400000 in
theorem slHasSuffix_any (s t : ByteArray) (w : World) (hs : s.size ≤ 35184372088832) (ht : t.size ≤ 35184372088832) :
    Calls Tryz.prog 69 #[.string s, .string t] w fun e w' => e = .returned (.bool (NU.ends (L s) (L t))) ∧ w = w' := by
  by_cases h : t.size ≤ s.size
  · obtain ⟨d, hd⟩ : ∃ d, s.size = d + t.size := ⟨s.size - t.size, by omega⟩
    have HD := Lib.hid hd
    have e1 : (s.size : Int) - (t.size : Int) = (d : Int) := by omega
    have e2 : d ≤ s.size := by omega
    clear hd
    go_enter Tryz.func69, Tryz.ntmps69
    go_wp2
    go_ret
    exact ⟨ret_bool (by
      rw [NU.ends, beq_L, ext_from, L_mk]; have := Lib.hasSuffix_of_drop (L s) (L t)
      rw [L_length, L_length, show s.size - t.size = d by have := HD.out; omega, decide_eq_true h, Bool.true_and] at this
      exact this), rfl⟩
  · go_enter Tryz.func69, Tryz.ntmps69
    go_wp2
    go_ret
    exact ⟨ret_bool (by have := Lib.hasSuffix_of_drop (L s) (L t); simpa [Lib.hasSuffix, h, NU.ends] using this), rfl⟩
set_option maxHeartbeats 400000 in
theorem HasSuffix_any (s t : ByteArray) (w : World) (hs : s.size ≤ 35184372088832) (ht : t.size ≤ 35184372088832) :
    Calls Tryz.prog 56 #[.string s, .string t] w fun e w' => e = .returned (.bool (NU.ends (L s) (L t))) ∧ w = w' := by
  go_enter Tryz.func56, Tryz.ntmps56
  go_wp2_with (go_at_call 69; refine (slHasSuffix_any _ _ _ hs ht).mono ?_; rintro e w' ⟨rfl, rfl⟩)
  go_ret
  exact ⟨rfl, rfl⟩
end Go.Proofs.YtibcegbacnjmfaaGreatDoor
namespace Go.Proofs.YtibcegbacnjmfaaGreatDoor
set_option linter.unusedVariables false
set_option linter.unusedSimpArgs false
open Go.RowKit

set_option maxHeartbeats 1000000 in
theorem ctl_any (s : ByteArray) (hs : s.size ≤ 35184372088832) (w : World) :
    Calls Tryz.prog 52 #[.string s] w fun e w' => e = .returned (.bool (NU.ctl (L s))) ∧ w = w' := by
  go_enter Tryz.func52, Tryz.ntmps52
  go_wp2
  go_loop [3] (fun i => ∃ k : Nat, k ≤ s.size ∧ i = .int .i64 (k : Int) ∧ Hid (NU.ctl (L s) = NU.ctl ((L s).drop k))) (fun i => s.size - (intOf i).toNat)
  case atStart => exact ⟨0, by omega, rfl, by show _ = _; simp⟩
  case round =>
    obtain ⟨k, hk, rfl, HS⟩ := hrel
    by_cases hlt : k < s.size
    · obtain ⟨c, hc⟩ : ∃ c, c = s[k] := ⟨_, rfl⟩
      have HV : Hid (NU.ctl (L s) = (NU.isCtl c || NU.ctl ((L s).drop (k + 1)))) := by
        show _ = _; rw [HS.out, drop_cons s k hlt, hc]; rfl
      have hb := u8_eq c 127
      have hc' := hc.symm
      clear HS hc
      by_cases h32 : c.toNat < 32
      · have h32' : (c.toNat : Int) < 32 := by omega
        have hC : NU.isCtl c = true := by rw [NU.isCtl, decide_eq_true h32]; rfl
        have HF : Hid (NU.ctl (L s) = true) := by show _ = _; rw [HV.out, hC]; rfl
        clear hC h32 hb HV
        go_wp2
        go_ret
        exact ⟨ret_bool HF.out.symm, rfl⟩
      · have h32' : (32 : Int) ≤ (c.toNat : Int) := by omega
        cases h7 : (c == 127)
        · have h7' : ((c.toNat : Int) == 127) = false := by rw [show (127 : Int) = ((127 : UInt8).toNat : Int) from rfl, hb]; exact h7
          have hC : NU.isCtl c = false := by rw [NU.isCtl, decide_eq_false h32, h7]; rfl
          have HF : Hid (NU.ctl (L s) = NU.ctl ((L s).drop (k + 1))) := by show _ = _; rw [HV.out, hC]; rfl
          clear hC h32 hb HV h7
          go_wp2
          go_round
          case rel => exact ⟨k + 1, by omega, by first | rfl | go_num, HF⟩
          case measure => first | (simp [intOf]; done) | (simp [intOf]; omega)
        · have h7' : ((c.toNat : Int) == 127) = true := by rw [show (127 : Int) = ((127 : UInt8).toNat : Int) from rfl, hb]; exact h7
          have hC : NU.isCtl c = true := by rw [NU.isCtl, h7, Bool.or_true]
          have HF : Hid (NU.ctl (L s) = true) := by show _ = _; rw [HV.out, hC]; rfl
          clear hC h32 hb HV h7
          go_wp2
          go_ret
          exact ⟨ret_bool HF.out.symm, rfl⟩
    · have HF : Hid (NU.ctl (L s) = false) := by show _ = _; rw [HS.out, drop_end s k (by omega)]; rfl
      clear HS
      go_wp2
      go_ret
      exact ⟨ret_bool HF.out.symm, rfl⟩

set_option maxHeartbeats 1000000 in
theorem zzCount1_any (s : ByteArray) (c : UInt8) (hs : s.size ≤ 35184372088832) (w : World) :
    Calls Tryz.prog 57 #[.string s, .string ⟨#[c]⟩] w fun e w' => e = .returned (.int .i64 (NU.cnt c (L s) : Nat)) ∧ w = w' := by
  go_enter Tryz.func57, Tryz.ntmps57
  go_wp2
  go_loop [5, 6] (fun a i => ∃ k n : Nat, k ≤ s.size ∧ n ≤ k ∧ i = .int .i64 (k : Int) ∧ a = .int .i64 (n : Int) ∧ Hid (NU.cnt c (L s) = n + NU.cnt c ((L s).drop k))) (fun _ i => s.size - (intOf i).toNat)
  case atStart => exact ⟨0, 0, by omega, by omega, rfl, rfl, by show _ = _; simp⟩
  case round =>
    obtain ⟨k, n, hk, hn, rfl, rfl, HS⟩ := hrel
    by_cases hlt : k < s.size
    · have hX : L (s.extract k (k + 1)) = [s[k]] := by rw [ext_mk, L_mk, drop_cons s k hlt, show k + 1 - k = 1 by omega]; rfl
      obtain ⟨x, hx⟩ : ∃ x, x = s.extract k (k + 1) := ⟨_, rfl⟩
      rw [← hx] at hX
      have HV : Hid (NU.cnt c (L s) = n + ((if s[k] == c then 1 else 0) + NU.cnt c ((L s).drop (k + 1)))) := by
        show _ = _; rw [HS.out, drop_cons s k hlt, NU.cnt_cons]
      have hx' := hx.symm
      clear HS hx
      cases hc : (s[k] == c)
      · have q : (x.toList == [c]) = false := ne_lits x _ (by rw [hX]; intro e; simp at e; simp [e] at hc)
        have HF : Hid (NU.cnt c (L s) = n + NU.cnt c ((L s).drop (k + 1))) := by show _ = _; rw [HV.out, hc]; simp
        clear HV hc hX
        go_wp2
        go_round
        case rel => exact ⟨k + 1, n, by omega, by omega, by first | rfl | go_num, rfl, HF⟩
        case measure => first | (simp [intOf]; done) | (simp [intOf]; omega)
      · have q : (x.toList == [c]) = true := eq_lits x _ (by rw [hX]; simp at hc; rw [hc])
        have HF : Hid (NU.cnt c (L s) = (n + 1) + NU.cnt c ((L s).drop (k + 1))) := by show _ = _; rw [HV.out, hc]; simp; omega
        clear HV hc hX
        go_wp2
        go_round
        case rel => exact ⟨k + 1, n + 1, by omega, by omega, by first | rfl | go_num, by first | rfl | go_num, HF⟩
        case measure => first | (simp [intOf]; done) | (simp [intOf]; omega)
    · have HF : Hid (NU.cnt c (L s) = n) := by show _ = _; rw [HS.out, drop_end s k (by omega)]; rfl
      clear HS
      go_wp2
      go_ret
      exact ⟨ret_int (by rw [HF.out]), rfl⟩
theorem zzContains_any (s t : ByteArray) (hs : s.size ≤ 35184372088832) (ht : t.size ≤ 35184372088832) (w : World) :
    Calls Tryz.prog 48 #[.string s, .string t] w fun e w' => e = .returned (.bool (decide (0 ≤ NU.fsub (L t) (L s)))) ∧ w = w' := by
  have C := Lib.hid (fun W => zzIndex_any s t W hs ht)
  go_enter Tryz.func48, Tryz.ntmps48
  go_wp2_with (go_at_call 51; (with_reducible refine (C.out _).mono ?_); rintro e w1 ⟨rfl, rfl⟩)
  go_ret
  exact ⟨rfl, rfl⟩

theorem sbs (l : List UInt8) (s : ByteArray) : Lib.byteCells l ++ Lib.strCells s = Lib.byteCells (l ++ L s) := by simp [Lib.byteCells, Lib.strCells]
set_option maxRecDepth 100000 in
set_option maxHeartbeats 4000000 in
theorem ToLower_ascii (s : ByteArray) (hs : s.size ≤ 35184372088832) (ha : Hid (∀ (k : Nat) (h : k < s.size), s[k].toNat < 128)) (w : World) :
    Calls Tryz.prog 55 #[.string s] w fun e w' => e = .returned (.string (mk (NU.lower (L s)))) ∧ Fr w w' := by
  go_enter Tryz.func55, Tryz.ntmps55
  go_wp2
  go_loop [3, 4, 5] (fun a u i => ∃ (k : Nat) (b : Bool), k ≤ s.size ∧ i = .int .i64 (k : Int) ∧ a = .bool true ∧ u = .bool b ∧ Hid ((L s).any NU.isUp = (b || ((L s).drop k).any NU.isUp))) (fun _ _ i => s.size - (intOf i).toNat)
  case atStart => exact ⟨0, false, by omega, rfl, rfl, rfl, by show _ = _; simp⟩
  case round =>
    obtain ⟨k, b, hk, rfl, rfl, rfl, HS⟩ := hrel
    by_cases hlt : k < s.size
    · have h128 := ha.out k hlt
      obtain ⟨c, hc⟩ : ∃ c, c = s[k] := ⟨_, rfl⟩
      rw [← hc] at h128
      have h128' : (c.toNat : Int) < 128 := by omega
      have HV : Hid ((L s).any NU.isUp = (b || (NU.isUp c || ((L s).drop (k + 1)).any NU.isUp))) := by
        show _ = _; rw [HS.out, drop_cons s k hlt, List.any_cons, hc]
      have hc' := hc.symm
      clear HS hc h128
      cases b
      · by_cases h65 : 65 ≤ c.toNat
        · have h65' : (65 : Int) ≤ (c.toNat : Int) := by omega
          by_cases h90 : c.toNat ≤ 90
          · have h90' : (c.toNat : Int) ≤ 90 := by omega
            have hU : NU.isUp c = true := by rw [NU.isUp, decide_eq_true h65, decide_eq_true h90]; rfl
            have HF : Hid ((L s).any NU.isUp = (true || ((L s).drop (k + 1)).any NU.isUp)) := by show _ = _; rw [HV.out, hU]; rfl
            clear HV hU h65 h90
            go_wp2
            go_round
            case rel => exact ⟨k + 1, _, by omega, by first | rfl | go_num, rfl, rfl, HF⟩
            case measure => first | (simp [intOf]; done) | (simp [intOf]; omega)
          · have h90' : (90 : Int) < (c.toNat : Int) := by omega
            have h90'' : decide ((c.toNat : Int) ≤ 90) = false := decide_eq_false (by omega)
            have hU : NU.isUp c = false := by rw [NU.isUp, decide_eq_false h90]; simp
            have HF : Hid ((L s).any NU.isUp = (false || ((L s).drop (k + 1)).any NU.isUp)) := by show _ = _; rw [HV.out, hU]; rfl
            clear HV hU h65 h90
            go_wp2
            go_round
            case rel => exact ⟨k + 1, _, by omega, by first | rfl | go_num, rfl, rfl, HF⟩
            case measure => first | (simp [intOf]; done) | (simp [intOf]; omega)
        · have h65' : (c.toNat : Int) < 65 := by omega
          have hU : NU.isUp c = false := by rw [NU.isUp, decide_eq_false h65]; rfl
          have HF : Hid ((L s).any NU.isUp = (false || ((L s).drop (k + 1)).any NU.isUp)) := by show _ = _; rw [HV.out, hU]; rfl
          clear HV hU h65
          go_wp2
          go_round
          case rel => exact ⟨k + 1, _, by omega, by first | rfl | go_num, rfl, rfl, HF⟩
          case measure => first | (simp [intOf]; done) | (simp [intOf]; omega)
      · have HF : Hid ((L s).any NU.isUp = (true || ((L s).drop (k + 1)).any NU.isUp)) := by show _ = _; rw [HV.out]; rfl
        clear HV
        go_wp2
        go_round
        case rel => exact ⟨k + 1, _, by omega, by first | rfl | go_num, rfl, rfl, HF⟩
        case measure => first | (simp [intOf]; done) | (simp [intOf]; omega)
    · have hks : s.size ≤ k := by omega
      cases b
      · have HF : Hid (NU.lower (L s) = L s) := by show _ = _; exact NU.lower_same _ (by rw [HS.out, drop_end s k (by omega)]; rfl)
        clear HS
        go_wp2
        go_ret
        exact ⟨ret_str (by rw [HF.out, mk_L]), Fr.refl _⟩
      · clear HS
        have hg1 : s.size ≤ 281474976710656 := by omega
        go_wp2_with fail
        refine (sbGrow_fresh w.heap.size w.heap.size s.size _ (Nat.le_refl _) (heap_alloc_new w _) (by simp) hg1).mono ?_
        rintro e w1 ⟨rfl, hB1, hf1⟩
        have hfr1 : Fr w w1 := Below.trans ((Fr.refl w).alloc _) hf1
        replace hB1 := Lib.hid hB1
        clear hf1 hg1
        go_wp2
        go_loopw [8, 9] (fun po i wr => ∃ (k p : Nat), i = .int .i64 (k : Int) ∧ po = .int .i64 (p : Int) ∧ k ≤ s.size ∧ p ≤ k ∧ Fr w wr ∧ Hid (SB w.heap.size w.heap.size (.pointer (some ⟨w.heap.size, 0, none⟩)) (Lib.byteCells (NU.lower ((L s).take p))) wr) ∧ Hid (NU.lower ((L s).take k) = NU.lower ((L s).take p) ++ L (s.extract p k))) (fun _ i _ => s.size - (intOf i).toNat)
        case atStart => exact ⟨0, 0, rfl, rfl, by omega, by omega, hfr1, hB1, by show _ = _; rw [ext_to]; rfl⟩
        case round =>
          obtain ⟨k, p, rfl, rfl, hk, hp, hfr, HB, HL⟩ := hrel
          have hbl : (Lib.byteCells (NU.lower ((L s).take p))).length = p := by rw [Lib.byteCells_length, NU.lower_len, List.length_take, L_length]; omega
          have HBL := Lib.hid hbl
          clear hbl
          by_cases hlt : k < s.size
          · obtain ⟨c, hc⟩ : ∃ c, c = s[k] := ⟨_, rfl⟩
            have e1 : (L s).take (k + 1) = (L s).take k ++ [c] := by
              rw [List.take_succ_eq_append_getElem (by rw [L_length]; exact hlt), hc]; rfl
            have HT : Hid (NU.lower ((L s).take (k + 1)) = NU.lower ((L s).take p) ++ L (s.extract p k) ++ [NU.lowc c]) := by
              show _ = _; rw [e1, NU.lower_app, HL.out]; rfl
            have HX : Hid (L (s.extract p (k + 1)) = L (s.extract p k) ++ [c]) := by
              show _ = _
              rw [ext_mk, ext_mk, L_mk, L_mk, show k + 1 - p = (k - p) + 1 by omega, List.take_succ_eq_append_getElem (by rw [List.length_drop, L_length]; omega), List.getElem_drop, hc]
              simp [L, show p + (k - p) = k by omega]
              rfl
            have hc' := hc.symm
            clear e1 hc HL
            have h65d : 65 ≤ c.toNat ∨ c.toNat < 65 := by omega
            cases hU : NU.isUp c
            · have hlc : NU.lowc c = c := NU.lowc_no c hU
              have HF : Hid (NU.lower ((L s).take (k + 1)) = NU.lower ((L s).take p) ++ L (s.extract p (k + 1))) := by show _ = _; rw [HT.out, HX.out, hlc]; simp
              have hz : (c.toNat : Int) < 65 ∨ ((65 : Int) ≤ (c.toNat : Int) ∧ (90 : Int) < (c.toNat : Int)) := by
                unfold NU.isUp at hU; simp at hU; omega
              clear hU hlc HT HX h65d
              rcases hz with hz | ⟨hz, hz2⟩
              all_goals
                go_wp2
                go_roundw
                case rel => exact ⟨k + 1, p, by first | rfl | go_num, rfl, by omega, by omega, hfr, HB, HF⟩
                case measure => first | (simp [intOf]; done) | (simp [intOf]; omega)
            · have hlc := NU.lowc_yes c hU
              have hz : (65 : Int) ≤ (c.toNat : Int) ∧ (c.toNat : Int) ≤ 90 := by
                unfold NU.isUp at hU; simp at hU; omega
              obtain ⟨hz, hz2⟩ := hz
              have w8 : IntKind.u8.wrap ((c.toNat : Int) + 32) = (c.toNat : Int) + 32 := by rw [IntKind.wrap_u8]; omega
              have HF : Hid (NU.lower ((L s).take (k + 1)) = NU.lower ((L s).take p) ++ L (s.extract p k) ++ [c + 32]) := by show _ = _; rw [HT.out, hlc.1]
              have HC : Hid (((c + 32).toNat : Int) = (c.toNat : Int) + 32) := hlc.2
              have HE0 : Hid (NU.lower ((L s).take (k + 1)) = NU.lower ((L s).take (k + 1)) ++ L (s.extract (k + 1) (k + 1))) := by
                show _ = _; rw [ext_mk, L_mk]; simp
              clear hU hlc HT HX h65d
              by_cases hpk : p < k
              · have hxz : (s.extract p k).size = k - p := by rw [ByteArray.size_extract]; omega
                have HXZ := Lib.hid hxz
                clear hxz
                go_wp2_with (first
                  | (go_at_call 42; refine (sbWriteString w.heap.size w.heap.size _ (s.extract p k) _ (.inr HB.out) (by rw [HBL.out, HXZ.out]; omega) hfr.size).mono ?_; rintro e w2 ⟨rfl, hB2, hf2⟩; have hfr2 : Fr w w2 := Below.trans hfr hf2; rw [sbs] at hB2; replace hB2 := Lib.hid hB2; clear hf2)
                  | (go_at_call 43; refine (sbWriteByte w.heap.size w.heap.size _ ((c.toNat : Int) + 32) _ (.inr hB2.out) (by rw [Lib.byteCells_length, List.length_append, NU.lower_len, List.length_take, L_length, L_length, HXZ.out]; omega) hfr2.size).mono ?_; rintro e w3 ⟨rfl, hB3, hf3⟩; replace hB3 := Lib.hid hB3))
                go_roundw
                case rel => exact ⟨k + 1, k + 1, by first | rfl | go_num, by first | rfl | go_num, by omega, by omega, Below.trans hfr2 hf3, by show SB _ _ _ _ _; rw [HF.out]; have := hB3.out; rw [← HC.out] at this; simpa [Lib.byteCells] using this, HE0⟩
                case measure => first | (simp [intOf]; done) | (simp [intOf]; omega)
              · have hpk2 : k ≤ p := by omega
                have HP0 : Hid (L (s.extract p k) = []) := by show _ = _; rw [ext_mk, L_mk, show k - p = 0 by omega]; rfl
                go_wp2_with (go_at_call 43; refine (sbWriteByte w.heap.size w.heap.size _ ((c.toNat : Int) + 32) _ (.inr HB.out) (by rw [HBL.out]; omega) hfr.size).mono ?_; rintro e w3 ⟨rfl, hB3, hf3⟩; replace hB3 := Lib.hid hB3)
                go_roundw
                case rel => exact ⟨k + 1, k + 1, by first | rfl | go_num, by first | rfl | go_num, by omega, by omega, Below.trans hfr hf3, by show SB _ _ _ _ _; rw [HF.out, HP0.out]; have := hB3.out; rw [← HC.out] at this; simpa [Lib.byteCells] using this, HE0⟩
                case measure => first | (simp [intOf]; done) | (simp [intOf]; omega)
          · have hks2 : s.size ≤ k := by omega
            have HE : Hid (NU.lower (L s) = NU.lower ((L s).take p) ++ L (s.extract p s.size)) := by
              show _ = _
              have := HL.out
              rw [show k = s.size by omega, List.take_of_length_le (by rw [L_length]; omega)] at this; exact this
            clear HL
            by_cases hps : p < s.size
            · have hxz : (s.extract p s.size).size = s.size - p := by rw [ByteArray.size_extract]; omega
              have HXZ := Lib.hid hxz
              clear hxz
              go_wp2_with (first
                | (go_at_call 42; refine (sbWriteString w.heap.size w.heap.size _ (s.extract p s.size) _ (.inr HB.out) (by rw [HBL.out, HXZ.out]; omega) hfr.size).mono ?_; rintro e w2 ⟨rfl, hB2, hf2⟩; have hfr2 : Fr w w2 := Below.trans hfr hf2; rw [sbs, ← HE.out] at hB2; replace hB2 := Lib.hid hB2; clear hf2)
                | (go_at_call 49; refine (sbString w.heap.size w.heap.size _ _ (.inr hB2.out) hfr2.size).mono ?_; rintro e w3 ⟨rfl, hf3⟩))
              go_ret
              exact ⟨rfl, Below.trans hfr2 hf3⟩
            · have hps2 : s.size ≤ p := by omega
              have HE2 : Hid (NU.lower ((L s).take p) = NU.lower (L s)) := by show _ = _; rw [List.take_of_length_le (by rw [L_length]; omega)]
              rw [HE2.out] at HB
              go_wp2_with (go_at_call 49; refine (sbString w.heap.size w.heap.size _ _ (.inr HB.out) hfr.size).mono ?_; rintro e w3 ⟨rfl, hf3⟩)
              go_ret
              exact ⟨rfl, Below.trans hfr hf3⟩
end Go.Proofs.YtibcegbacnjmfaaGreatDoor
namespace Go.Proofs.YtibcegbacnjmfaaGreatDoor
set_option linter.unusedVariables false
set_option linter.unusedSimpArgs false
open Go.RowKit

/-- Some error. -/
def ErrV (v : Value) : Prop := ∃ (t : TypeId) (x : Value), v = .iface t x
theorem IsErr.v {v : Value} (h : IsErr v) : ErrV v := by obtain ⟨t, a, rfl⟩ := h; exact ⟨t, _, rfl⟩

set_option maxHeartbeats 400000 in
theorem errNew_any (s : ByteArray) (w : World) :
    Calls Tryz.prog 53 #[.string s] w fun e w' => (∃ v, IsErr v ∧ e = .returned v) ∧ Fr w w' := by
  go_enter Tryz.func53, Tryz.ntmps53
  go_wp2
  go_ret
  exact ⟨⟨_, ⟨_, _, rfl⟩, rfl⟩, (Fr.refl _).alloc _⟩

theorem UrlIs.ne {w : World} {g : Nat} {v : Value} {U : UrlR} (hu : UserIs w v U.user) (hb : Blk w g 64 (urlA U v)) : ∀ a, v = .pointer (some a) → g ≠ a.block := by
  intro a ha e
  match hU : U.user, hu with
  | none, hu => rw [show v = .pointer none from hu] at ha; cases ha
  | some (n, p, b), hu =>
    obtain ⟨k, hk, hbk⟩ := hu
    rw [ha] at hk
    cases hk
    subst e
    unfold Blk at hb hbk
    rw [hb] at hbk
    exact absurd (congrArg (fun o => match o with | some (Obj.cells _ t _) => t | _ => 0) hbk) (by show ¬ ((64 : Nat) = 89); decide)
theorem UserIs.far {w : World} {v : Value} {u : Option (ByteArray × ByteArray × Bool)} (h : UserIs w v u) {p : Addr} (hp : ∀ a, v = .pointer (some a) → p.block ≠ a.block) (x : Value) : UserIs (w.setCell p x) v u := by
  match u, h with
  | none, h => exact h
  | some (n, q, b), ⟨g, hg, hb⟩ => exact ⟨g, hg, hb.far (fun e => hp _ hg e.symm) x⟩
/-- A store into one of the URL's own fields, but the user. -/
theorem UrlIs.set_ {w : World} {g : Nat} {U U' : UrlR} (h : UrlIs w g U) (i : Nat) (u : Value) (hs : ∀ v, (urlA U v).setIfInBounds i u = urlA U' v) (hu : U'.user = U.user) : UrlIs (w.setCell ⟨g, i, none⟩ u) g U' := by
  obtain ⟨v, h1, h2⟩ := h
  refine ⟨v, ?_, ?_⟩
  · rw [hu]; exact h1.far (fun a ha => UrlIs.ne h1 h2 a ha) u
  · have := h2.set_ i u
    rw [hs] at this; exact this
theorem UrlIs.frozen {w : World} {g : Nat} {U : UrlR} (h : UrlIs w g U) (i : Nat) : w.frozen? ⟨g, i, none⟩ = false := by
  obtain ⟨v, _, hb⟩ := h; exact hb.frozen i
theorem UrlIs.drew {w : World} {g : Nat} {U : UrlR} (h : UrlIs w g U) : UrlIs w.drew g U := h.fr ((Fr.refl w).drew)
theorem UrlIs.drewN {w : World} {g : Nat} {U : UrlR} (h : UrlIs w g U) (n : Nat) : UrlIs (w.drewN n) g U := h.fr ((Fr.refl w).drewN n)

/-- What setPath does to a URL. -/
def setPathR (U : UrlR) (x p : List UInt8) : UrlR := { U with path := mk x, rawPath := if p = NU.esc 1 x then ⟨#[]⟩ else mk p }
def setFragR (U : UrlR) (x p : List UInt8) : UrlR := { U with fragment := mk x, rawFragment := if p = NU.esc 64 x then ⟨#[]⟩ else mk p }

set_option maxRecDepth 100000 in
set_option maxHeartbeats 2000000 in
theorem setPath_no (g : Nat) (U : UrlR) (p : ByteArray) (hp : p.size ≤ 274877906944) (hd : NU.dec false (L p) = none) (w : World) (ht : Hid (Tab w)) :
    Calls Tryz.prog 59 #[.pointer (some ⟨g, 0, none⟩), .string p] w fun e w' => (∃ v, ErrV v ∧ e = .returned v) ∧ Fr w w' := by
  have C := Lib.hid (fun W (hW : Hid (Tab W)) => unescape_any p 1 false W hW.out (by omega) rfl rfl rfl)
  rw [hd] at C
  clear hd
  go_enter Tryz.func59, Tryz.ntmps59
  go_wp2_with (go_at_call 60; (with_reducible refine (C.out _ ht).mono ?_); rintro e w1 ⟨⟨ev, rfl, x, rfl⟩, hf1⟩)
  go_ret
  exact ⟨⟨_, ⟨_, _, rfl⟩, rfl⟩, hf1⟩
set_option maxRecDepth 100000 in
set_option maxHeartbeats 2000000 in
theorem setPath_yes (g : Nat) (U : UrlR) (p : ByteArray) (x : List UInt8) (hp : p.size ≤ 274877906944) (hd : NU.dec false (L p) = some x) (w0 : World) (hg : w0.heap.size ≤ g) (w : World) (h : Hid (UrlIs w g U)) (hfr : Fr w0 w) (ht : Hid (Tab w0)) :
    Calls Tryz.prog 59 #[.pointer (some ⟨g, 0, none⟩), .string p] w fun e w' => e = .returned .nilIface ∧ Fr w0 w' ∧ UrlIs w' g (setPathR U x (L p)) := by
  have C := Lib.hid (fun W (hW : Hid (Tab W)) => unescape_any p 1 false W hW.out (by omega) rfl rfl rfl)
  rw [hd] at C
  have hxl : x.length ≤ p.size := by rw [← L_length]; exact NU.dec_len false _ _ _ (Nat.le_refl _) hd
  obtain ⟨xb, hxb⟩ : ∃ xb, xb = mk x := ⟨_, rfl⟩
  have hx : x = L xb := by rw [hxb, L_mk]
  have hxz : xb.size ≤ p.size := by rw [hxb, mk_size]; exact hxl
  have CE := Lib.hid (escape_m xb 1 1 rfl (by omega))
  have HU : Hid (∀ W r, UrlIs W g U → UrlIs ((W.setCell ⟨g, 4, none⟩ (.string xb)).setCell ⟨g, 7, none⟩ (.string r)) g { U with path := xb, rawPath := r }) := by
    show ∀ W r, _ → _
    intro W r hW
    have h1 : UrlIs (W.setCell ⟨g, 4, none⟩ (.string xb)) g { U with path := xb } := hW.set_ 4 _ (fun v => rfl) rfl
    exact h1.set_ 7 _ (fun v => rfl) rfl
  have hE : Hid (setPathR U x (L p) = { U with path := xb, rawPath := if L p = NU.esc 1 (L xb) then ⟨#[]⟩ else p }) := by
    show _ = _; rw [setPathR, ← hxb, hx, mk_L]
  have C' : Hid (∀ W, Hid (Tab W) → Calls Tryz.prog 60 #[.string p, .int .u8 1] W fun e w' => e = .returned (.tuple #[.string xb, .nilIface]) ∧ Fr W w') := by
    show ∀ W, _ → _
    intro W hW
    refine (C.out W hW).mono ?_
    rintro e w' ⟨⟨ev, rfl, he⟩, hf⟩
    have he : ev = .nilIface := he
    subst he
    exact ⟨by rw [hxb]; rfl, hf⟩
  clear hd hxl C hxb hx
  by_cases hq : L p = NU.esc 1 (L xb)
  · have q : (p.toList == (mk (NU.esc 1 (L xb))).toList) = true := by rw [beq_L, L_mk, hq]; simp
    have hE2 : Hid (setPathR U x (L p) = { U with path := xb, rawPath := ⟨#[]⟩ }) := by show _ = _; rw [hE.out, if_pos hq]
    clear hq hE
    go_enter Tryz.func59, Tryz.ntmps59
    go_wp2_with (first
      | (go_at_call 60; (with_reducible refine (C'.out _ (Lib.hid (ht.out.fr hfr))).mono ?_); rintro e w1 ⟨rfl, hf1⟩; have hu1 := Lib.hid (h.out.fr hf1); have hF1 := hfr.trans hf1; have c4 := (hu1.out.cells).2.2.2.1; have f4 := hu1.out.frozen 4)
      | (go_at_call 45; (with_reducible refine (CE.out _ (Lib.hid (ht.out.fr (hF1.setCell hg _)))).mono ?_); rintro e w2 ⟨rfl, hf2⟩; have hu2 := Lib.hid ((UrlIs.set_ (U' := { U with path := xb }) hu1.out 4 (.string xb) (fun v => rfl) rfl).fr hf2); have hF2 := (hF1.setCell (p := ⟨g, 4, none⟩) hg (.string xb)).trans hf2; have c7 := (hu2.out.cells).2.2.2.2.2.2.1; have f7 := hu2.out.frozen 7))
    go_ret
    refine ⟨rfl, hF2.setCell hg _, ?_⟩
    rw [hE2.out]
    exact UrlIs.set_ hu2.out 7 _ (fun v => rfl) rfl
  · have q : (p.toList == (mk (NU.esc 1 (L xb))).toList) = false := by rw [beq_L, L_mk]; simpa using hq
    have hE2 : Hid (setPathR U x (L p) = { U with path := xb, rawPath := p }) := by show _ = _; rw [hE.out, if_neg hq]
    clear hq hE
    go_enter Tryz.func59, Tryz.ntmps59
    go_wp2_with (first
      | (go_at_call 60; (with_reducible refine (C'.out _ (Lib.hid (ht.out.fr hfr))).mono ?_); rintro e w1 ⟨rfl, hf1⟩; have hu1 := Lib.hid (h.out.fr hf1); have hF1 := hfr.trans hf1; have c4 := (hu1.out.cells).2.2.2.1; have f4 := hu1.out.frozen 4)
      | (go_at_call 45; (with_reducible refine (CE.out _ (Lib.hid (ht.out.fr (hF1.setCell hg _)))).mono ?_); rintro e w2 ⟨rfl, hf2⟩; have hu2 := Lib.hid ((UrlIs.set_ (U' := { U with path := xb }) hu1.out 4 (.string xb) (fun v => rfl) rfl).fr hf2); have hF2 := (hF1.setCell (p := ⟨g, 4, none⟩) hg (.string xb)).trans hf2; have c7 := (hu2.out.cells).2.2.2.2.2.2.1; have f7 := hu2.out.frozen 7))
    go_ret
    refine ⟨rfl, hF2.setCell hg _, ?_⟩
    rw [hE2.out]
    exact UrlIs.set_ hu2.out 7 _ (fun v => rfl) rfl
end Go.Proofs.YtibcegbacnjmfaaGreatDoor
namespace Go.Proofs.YtibcegbacnjmfaaGreatDoor
set_option linter.unusedVariables false
set_option linter.unusedSimpArgs false
open Go.RowKit

set_option maxHeartbeats 400000 in
theorem LastIndex1_any (s : ByteArray) (c : UInt8) (w : World) (hs : s.size ≤ 35184372088832) :
    Calls Tryz.prog 70 #[.string s, .string ⟨#[c]⟩] w fun e w' => e = .returned (.int .i64 (NU.lastIdx c (L s))) ∧ w = w' := by
  go_enter Tryz.func70, Tryz.ntmps70
  go_wp2_with (go_at_call 82; refine (LastIndexByteString_any _ c _ hs).mono ?_; rintro e w' ⟨rfl, rfl⟩)
  go_ret
  exact ⟨rfl, rfl⟩
end Go.Proofs.YtibcegbacnjmfaaGreatDoor
