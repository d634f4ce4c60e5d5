import Derived.Test.YtibcegbacnjmfaaDoorW14
import Derived.Test.YtibcegbacnjmfaaDoorP
import Derived.Test.YtibcegbacnjmfaaDoorSc
namespace Go.Proofs.YtibcegbacnjmfaaDoor
set_option linter.unusedVariables false
set_option linter.unusedSimpArgs false
open Go.RowKit

set_option maxHeartbeats 1000000 in
theorem ctl_any (s : ByteArray) (hs : s.size ≤ 35184372088832) (w : World) :
    Calls Tryd.prog 49 #[.string s] w fun e w' => e = .returned (.bool (NU.ctl (L s))) ∧ w = w' := by
  go_enter Tryd.func49, Tryd.ntmps49
  go_wp2
  go_loop [3] (fun i => ∃ k : Nat, k ≤ s.size ∧ i = .int .i64 (k : Int) ∧ Hid (NU.ctl (L s) = NU.ctl ((L s).drop k))) (fun i => s.size - (intOf i).toNat)
  case atStart => exact ⟨0, by omega, rfl, by show _ = _; simp⟩
  case round =>
    obtain ⟨k, hk, rfl, HS⟩ := hrel
    by_cases hlt : k < s.size
    · obtain ⟨c, hc⟩ : ∃ c, c = s[k] := ⟨_, rfl⟩
      have HV : Hid (NU.ctl (L s) = (NU.isCtl c || NU.ctl ((L s).drop (k + 1)))) := by
        show _ = _; rw [HS.out, drop_cons s k hlt, hc]; rfl
      have hb := u8_eq c 127
      have hc' := hc.symm
      clear HS hc
      by_cases h32 : c.toNat < 32
      · have h32' : (c.toNat : Int) < 32 := by omega
        have hC : NU.isCtl c = true := by rw [NU.isCtl, decide_eq_true h32]; rfl
        have HF : Hid (NU.ctl (L s) = true) := by show _ = _; rw [HV.out, hC]; rfl
        clear hC h32 hb HV
        go_wp2
        go_ret
        exact ⟨ret_bool HF.out.symm, rfl⟩
      · have h32' : (32 : Int) ≤ (c.toNat : Int) := by omega
        cases h7 : (c == 127)
        · have h7' : ((c.toNat : Int) == 127) = false := by rw [show (127 : Int) = ((127 : UInt8).toNat : Int) from rfl, hb]; exact h7
          have hC : NU.isCtl c = false := by rw [NU.isCtl, decide_eq_false h32, h7]; rfl
          have HF : Hid (NU.ctl (L s) = NU.ctl ((L s).drop (k + 1))) := by show _ = _; rw [HV.out, hC]; rfl
          clear hC h32 hb HV h7
          go_wp2
          go_round
          case rel => exact ⟨k + 1, by omega, by first | rfl | go_num, HF⟩
          case measure => first | (simp [intOf]; done) | (simp [intOf]; omega)
        · have h7' : ((c.toNat : Int) == 127) = true := by rw [show (127 : Int) = ((127 : UInt8).toNat : Int) from rfl, hb]; exact h7
          have hC : NU.isCtl c = true := by rw [NU.isCtl, h7, Bool.or_true]
          have HF : Hid (NU.ctl (L s) = true) := by show _ = _; rw [HV.out, hC]; rfl
          clear hC h32 hb HV h7
          go_wp2
          go_ret
          exact ⟨ret_bool HF.out.symm, rfl⟩
    · have HF : Hid (NU.ctl (L s) = false) := by show _ = _; rw [HS.out, drop_end s k (by omega)]; rfl
      clear HS
      go_wp2
      go_ret
      exact ⟨ret_bool HF.out.symm, rfl⟩

set_option maxHeartbeats 1000000 in
theorem zzCount1_any (s : ByteArray) (c : UInt8) (hs : s.size ≤ 35184372088832) (w : World) :
    Calls Tryd.prog 54 #[.string s, .string ⟨#[c]⟩] w fun e w' => e = .returned (.int .i64 (NU.cnt c (L s) : Nat)) ∧ w = w' := by
  go_enter Tryd.func54, Tryd.ntmps54
  go_wp2
  go_loop [5, 6] (fun a i => ∃ k n : Nat, k ≤ s.size ∧ n ≤ k ∧ i = .int .i64 (k : Int) ∧ a = .int .i64 (n : Int) ∧ Hid (NU.cnt c (L s) = n + NU.cnt c ((L s).drop k))) (fun _ i => s.size - (intOf i).toNat)
  case atStart => exact ⟨0, 0, by omega, by omega, rfl, rfl, by show _ = _; simp⟩
  case round =>
    obtain ⟨k, n, hk, hn, rfl, rfl, HS⟩ := hrel
    by_cases hlt : k < s.size
    · have hX : L (s.extract k (k + 1)) = [s[k]] := by rw [ext_mk, L_mk, drop_cons s k hlt, show k + 1 - k = 1 by omega]; rfl
      obtain ⟨x, hx⟩ : ∃ x, x = s.extract k (k + 1) := ⟨_, rfl⟩
      rw [← hx] at hX
      have HV : Hid (NU.cnt c (L s) = n + ((if s[k] == c then 1 else 0) + NU.cnt c ((L s).drop (k + 1)))) := by
        show _ = _; rw [HS.out, drop_cons s k hlt, NU.cnt_cons]
      have hx' := hx.symm
      clear HS hx
      cases hc : (s[k] == c)
      · have q : (x.toList == [c]) = false := ne_lits x _ (by rw [hX]; intro e; simp at e; simp [e] at hc)
        have HF : Hid (NU.cnt c (L s) = n + NU.cnt c ((L s).drop (k + 1))) := by show _ = _; rw [HV.out, hc]; simp
        clear HV hc hX
        go_wp2
        go_round
        case rel => exact ⟨k + 1, n, by omega, by omega, by first | rfl | go_num, rfl, HF⟩
        case measure => first | (simp [intOf]; done) | (simp [intOf]; omega)
      · have q : (x.toList == [c]) = true := eq_lits x _ (by rw [hX]; simp at hc; rw [hc])
        have HF : Hid (NU.cnt c (L s) = (n + 1) + NU.cnt c ((L s).drop (k + 1))) := by show _ = _; rw [HV.out, hc]; simp; omega
        clear HV hc hX
        go_wp2
        go_round
        case rel => exact ⟨k + 1, n + 1, by omega, by omega, by first | rfl | go_num, by first | rfl | go_num, HF⟩
        case measure => first | (simp [intOf]; done) | (simp [intOf]; omega)
    · have HF : Hid (NU.cnt c (L s) = n) := by show _ = _; rw [HS.out, drop_end s k (by omega)]; rfl
      clear HS
      go_wp2
      go_ret
      exact ⟨ret_int (by rw [HF.out]), rfl⟩
theorem zzContains_any (s t : ByteArray) (hs : s.size ≤ 35184372088832) (ht : t.size ≤ 35184372088832) (w : World) :
    Calls Tryd.prog 46 #[.string s, .string t] w fun e w' => e = .returned (.bool (decide (0 ≤ NU.fsub (L t) (L s)))) ∧ w = w' := by
  have C := Lib.hid (fun W => zzIndex_any s t W hs ht)
  go_enter Tryd.func46, Tryd.ntmps46
  go_wp2_with (go_at_call 48; (with_reducible refine (C.out _).mono ?_); rintro e w1 ⟨rfl, rfl⟩)
  go_ret
  exact ⟨rfl, rfl⟩

theorem sbs (l : List UInt8) (s : ByteArray) : Lib.byteCells l ++ Lib.strCells s = Lib.byteCells (l ++ L s) := by simp [Lib.byteCells, Lib.strCells]
set_option maxRecDepth 100000 in
set_option maxHeartbeats 4000000 in
theorem ToLower_ascii (s : ByteArray) (hs : s.size ≤ 35184372088832) (ha : Hid (∀ (k : Nat) (h : k < s.size), s[k].toNat < 128)) (w : World) :
    Calls Tryd.prog 52 #[.string s] w fun e w' => e = .returned (.string (mk (NU.lower (L s)))) ∧ Fr w w' := by
  go_enter Tryd.func52, Tryd.ntmps52
  go_wp2
  go_loop [3, 4, 5] (fun a u i => ∃ (k : Nat) (b : Bool), k ≤ s.size ∧ i = .int .i64 (k : Int) ∧ a = .bool true ∧ u = .bool b ∧ Hid ((L s).any NU.isUp = (b || ((L s).drop k).any NU.isUp))) (fun _ _ i => s.size - (intOf i).toNat)
  case atStart => exact ⟨0, false, by omega, rfl, rfl, rfl, by show _ = _; simp⟩
  case round =>
    obtain ⟨k, b, hk, rfl, rfl, rfl, HS⟩ := hrel
    by_cases hlt : k < s.size
    · have h128 := ha.out k hlt
      obtain ⟨c, hc⟩ : ∃ c, c = s[k] := ⟨_, rfl⟩
      rw [← hc] at h128
      have h128' : (c.toNat : Int) < 128 := by omega
      have HV : Hid ((L s).any NU.isUp = (b || (NU.isUp c || ((L s).drop (k + 1)).any NU.isUp))) := by
        show _ = _; rw [HS.out, drop_cons s k hlt, List.any_cons, hc]
      have hc' := hc.symm
      clear HS hc h128
      cases b
      · by_cases h65 : 65 ≤ c.toNat
        · have h65' : (65 : Int) ≤ (c.toNat : Int) := by omega
          by_cases h90 : c.toNat ≤ 90
          · have h90' : (c.toNat : Int) ≤ 90 := by omega
            have hU : NU.isUp c = true := by rw [NU.isUp, decide_eq_true h65, decide_eq_true h90]; rfl
            have HF : Hid ((L s).any NU.isUp = (true || ((L s).drop (k + 1)).any NU.isUp)) := by show _ = _; rw [HV.out, hU]; rfl
            clear HV hU h65 h90
            go_wp2
            go_round
            case rel => exact ⟨k + 1, _, by omega, by first | rfl | go_num, rfl, rfl, HF⟩
            case measure => first | (simp [intOf]; done) | (simp [intOf]; omega)
          · have h90' : (90 : Int) < (c.toNat : Int) := by omega
            have h90'' : decide ((c.toNat : Int) ≤ 90) = false := decide_eq_false (by omega)
            have hU : NU.isUp c = false := by rw [NU.isUp, decide_eq_false h90]; simp
            have HF : Hid ((L s).any NU.isUp = (false || ((L s).drop (k + 1)).any NU.isUp)) := by show _ = _; rw [HV.out, hU]; rfl
            clear HV hU h65 h90
            go_wp2
            go_round
            case rel => exact ⟨k + 1, _, by omega, by first | rfl | go_num, rfl, rfl, HF⟩
            case measure => first | (simp [intOf]; done) | (simp [intOf]; omega)
        · have h65' : (c.toNat : Int) < 65 := by omega
          have hU : NU.isUp c = false := by rw [NU.isUp, decide_eq_false h65]; rfl
          have HF : Hid ((L s).any NU.isUp = (false || ((L s).drop (k + 1)).any NU.isUp)) := by show _ = _; rw [HV.out, hU]; rfl
          clear HV hU h65
          go_wp2
          go_round
          case rel => exact ⟨k + 1, _, by omega, by first | rfl | go_num, rfl, rfl, HF⟩
          case measure => first | (simp [intOf]; done) | (simp [intOf]; omega)
      · have HF : Hid ((L s).any NU.isUp = (true || ((L s).drop (k + 1)).any NU.isUp)) := by show _ = _; rw [HV.out]; rfl
        clear HV
        go_wp2
        go_round
        case rel => exact ⟨k + 1, _, by omega, by first | rfl | go_num, rfl, rfl, HF⟩
        case measure => first | (simp [intOf]; done) | (simp [intOf]; omega)
    · have hks : s.size ≤ k := by omega
      cases b
      · have HF : Hid (NU.lower (L s) = L s) := by show _ = _; exact NU.lower_same _ (by rw [HS.out, drop_end s k (by omega)]; rfl)
        clear HS
        go_wp2
        go_ret
        exact ⟨ret_str (by rw [HF.out, mk_L]), Fr.refl _⟩
      · clear HS
        have hg1 : s.size ≤ 281474976710656 := by omega
        go_wp2_with fail
        refine (sbGrow_fresh w.heap.size w.heap.size s.size _ (Nat.le_refl _) (heap_alloc_new w _) (by simp) hg1).mono ?_
        rintro e w1 ⟨rfl, hB1, hf1⟩
        have hfr1 : Fr w w1 := Below.trans ((Fr.refl w).alloc _) hf1
        replace hB1 := Lib.hid hB1
        clear hf1 hg1
        go_wp2
        go_loopw [8, 9] (fun po i wr => ∃ (k p : Nat), i = .int .i64 (k : Int) ∧ po = .int .i64 (p : Int) ∧ k ≤ s.size ∧ p ≤ k ∧ Fr w wr ∧ Hid (SB w.heap.size w.heap.size (.pointer (some ⟨w.heap.size, 0, none⟩)) (Lib.byteCells (NU.lower ((L s).take p))) wr) ∧ Hid (NU.lower ((L s).take k) = NU.lower ((L s).take p) ++ L (s.extract p k))) (fun _ i _ => s.size - (intOf i).toNat)
        case atStart => exact ⟨0, 0, rfl, rfl, by omega, by omega, hfr1, hB1, by show _ = _; rw [ext_to]; rfl⟩
        case round =>
          obtain ⟨k, p, rfl, rfl, hk, hp, hfr, HB, HL⟩ := hrel
          have hbl : (Lib.byteCells (NU.lower ((L s).take p))).length = p := by rw [Lib.byteCells_length, NU.lower_len, List.length_take, L_length]; omega
          have HBL := Lib.hid hbl
          clear hbl
          by_cases hlt : k < s.size
          · obtain ⟨c, hc⟩ : ∃ c, c = s[k] := ⟨_, rfl⟩
            have e1 : (L s).take (k + 1) = (L s).take k ++ [c] := by
              rw [List.take_succ_eq_append_getElem (by rw [L_length]; exact hlt), hc]; rfl
            have HT : Hid (NU.lower ((L s).take (k + 1)) = NU.lower ((L s).take p) ++ L (s.extract p k) ++ [NU.lowc c]) := by
              show _ = _; rw [e1, NU.lower_app, HL.out]; rfl
            have HX : Hid (L (s.extract p (k + 1)) = L (s.extract p k) ++ [c]) := by
              show _ = _
              rw [ext_mk, ext_mk, L_mk, L_mk, show k + 1 - p = (k - p) + 1 by omega, List.take_succ_eq_append_getElem (by rw [List.length_drop, L_length]; omega), List.getElem_drop, hc]
              simp [L, show p + (k - p) = k by omega]
              rfl
            have hc' := hc.symm
            clear e1 hc HL
            have h65d : 65 ≤ c.toNat ∨ c.toNat < 65 := by omega
            cases hU : NU.isUp c
            · have hlc : NU.lowc c = c := NU.lowc_no c hU
              have HF : Hid (NU.lower ((L s).take (k + 1)) = NU.lower ((L s).take p) ++ L (s.extract p (k + 1))) := by show _ = _; rw [HT.out, HX.out, hlc]; simp
              have hz : (c.toNat : Int) < 65 ∨ ((65 : Int) ≤ (c.toNat : Int) ∧ (90 : Int) < (c.toNat : Int)) := by
                unfold NU.isUp at hU; simp at hU; omega
              clear hU hlc HT HX h65d
              rcases hz with hz | ⟨hz, hz2⟩
              all_goals
                go_wp2
                go_roundw
                case rel => exact ⟨k + 1, p, by first | rfl | go_num, rfl, by omega, by omega, hfr, HB, HF⟩
                case measure => first | (simp [intOf]; done) | (simp [intOf]; omega)
            · have hlc := NU.lowc_yes c hU
              have hz : (65 : Int) ≤ (c.toNat : Int) ∧ (c.toNat : Int) ≤ 90 := by
                unfold NU.isUp at hU; simp at hU; omega
              obtain ⟨hz, hz2⟩ := hz
              have w8 : IntKind.u8.wrap ((c.toNat : Int) + 32) = (c.toNat : Int) + 32 := by rw [IntKind.wrap_u8]; omega
              have HF : Hid (NU.lower ((L s).take (k + 1)) = NU.lower ((L s).take p) ++ L (s.extract p k) ++ [c + 32]) := by show _ = _; rw [HT.out, hlc.1]
              have HC : Hid (((c + 32).toNat : Int) = (c.toNat : Int) + 32) := hlc.2
              have HE0 : Hid (NU.lower ((L s).take (k + 1)) = NU.lower ((L s).take (k + 1)) ++ L (s.extract (k + 1) (k + 1))) := by
                show _ = _; rw [ext_mk, L_mk]; simp
              clear hU hlc HT HX h65d
              by_cases hpk : p < k
              · have hxz : (s.extract p k).size = k - p := by rw [ByteArray.size_extract]; omega
                have HXZ := Lib.hid hxz
                clear hxz
                go_wp2_with (first
                  | (go_at_call 40; refine (sbWriteString w.heap.size w.heap.size _ (s.extract p k) _ (.inr HB.out) (by rw [HBL.out, HXZ.out]; omega) hfr.size).mono ?_; rintro e w2 ⟨rfl, hB2, hf2⟩; have hfr2 : Fr w w2 := Below.trans hfr hf2; rw [sbs] at hB2; replace hB2 := Lib.hid hB2; clear hf2)
                  | (go_at_call 41; refine (sbWriteByte w.heap.size w.heap.size _ ((c.toNat : Int) + 32) _ (.inr hB2.out) (by rw [Lib.byteCells_length, List.length_append, NU.lower_len, List.length_take, L_length, L_length, HXZ.out]; omega) hfr2.size).mono ?_; rintro e w3 ⟨rfl, hB3, hf3⟩; replace hB3 := Lib.hid hB3))
                go_roundw
                case rel => exact ⟨k + 1, k + 1, by first | rfl | go_num, by first | rfl | go_num, by omega, by omega, Below.trans hfr2 hf3, by show SB _ _ _ _ _; rw [HF.out]; have := hB3.out; rw [← HC.out] at this; simpa [Lib.byteCells] using this, HE0⟩
                case measure => first | (simp [intOf]; done) | (simp [intOf]; omega)
              · have hpk2 : k ≤ p := by omega
                have HP0 : Hid (L (s.extract p k) = []) := by show _ = _; rw [ext_mk, L_mk, show k - p = 0 by omega]; rfl
                go_wp2_with (go_at_call 41; refine (sbWriteByte w.heap.size w.heap.size _ ((c.toNat : Int) + 32) _ (.inr HB.out) (by rw [HBL.out]; omega) hfr.size).mono ?_; rintro e w3 ⟨rfl, hB3, hf3⟩; replace hB3 := Lib.hid hB3)
                go_roundw
                case rel => exact ⟨k + 1, k + 1, by first | rfl | go_num, by first | rfl | go_num, by omega, by omega, Below.trans hfr hf3, by show SB _ _ _ _ _; rw [HF.out, HP0.out]; have := hB3.out; rw [← HC.out] at this; simpa [Lib.byteCells] using this, HE0⟩
                case measure => first | (simp [intOf]; done) | (simp [intOf]; omega)
          · have hks2 : s.size ≤ k := by omega
            have HE : Hid (NU.lower (L s) = NU.lower ((L s).take p) ++ L (s.extract p s.size)) := by
              show _ = _
              have := HL.out
              rw [show k = s.size by omega, List.take_of_length_le (by rw [L_length]; omega)] at this; exact this
            clear HL
            by_cases hps : p < s.size
            · have hxz : (s.extract p s.size).size = s.size - p := by rw [ByteArray.size_extract]; omega
              have HXZ := Lib.hid hxz
              clear hxz
              go_wp2_with (first
                | (go_at_call 40; refine (sbWriteString w.heap.size w.heap.size _ (s.extract p s.size) _ (.inr HB.out) (by rw [HBL.out, HXZ.out]; omega) hfr.size).mono ?_; rintro e w2 ⟨rfl, hB2, hf2⟩; have hfr2 : Fr w w2 := Below.trans hfr hf2; rw [sbs, ← HE.out] at hB2; replace hB2 := Lib.hid hB2; clear hf2)
                | (go_at_call 47; refine (sbString w.heap.size w.heap.size _ _ (.inr hB2.out) hfr2.size).mono ?_; rintro e w3 ⟨rfl, hf3⟩))
              go_ret
              exact ⟨rfl, Below.trans hfr2 hf3⟩
            · have hps2 : s.size ≤ p := by omega
              have HE2 : Hid (NU.lower ((L s).take p) = NU.lower (L s)) := by show _ = _; rw [List.take_of_length_le (by rw [L_length]; omega)]
              rw [HE2.out] at HB
              go_wp2_with (go_at_call 47; refine (sbString w.heap.size w.heap.size _ _ (.inr HB.out) hfr.size).mono ?_; rintro e w3 ⟨rfl, hf3⟩)
              go_ret
              exact ⟨rfl, Below.trans hfr hf3⟩
end Go.Proofs.YtibcegbacnjmfaaDoor
