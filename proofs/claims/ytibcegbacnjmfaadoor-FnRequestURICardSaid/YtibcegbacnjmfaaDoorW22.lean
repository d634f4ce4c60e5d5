import Derived.Test.YtibcegbacnjmfaaDoorRow
import Derived.Test.YtibcegbacnjmfaaDoorP
import Derived.Deep.RegionWith
import Derived.Deep.RegionLaw
import Derived.Laws.BitsLemmas
import Derived.Deep.DeepCutAuto
namespace Go.Proofs.YtibcegbacnjmfaaDoor
set_option linter.unusedVariables false
set_option linter.unusedSimpArgs false
open Go.RowKit

set_option maxRecDepth 100000 in
set_option maxHeartbeats 2000000 in
theorem Decode_any (s : ByteArray) (w : World) (hs : s.size ≤ 35184372088832) :
    Calls Tryd.prog 8 #[.string s] w fun e w' => e = .returned (.tuple #[.string (mk ((NU.dec false (L s)).getD [])), .bool (NU.dec false (L s)).isSome]) ∧ Fr w w' := by
  go_enter Tryd.func8, Tryd.ntmps8
  go_wp2
  go_loopw [4, 5] (fun o i wr => ∃ (k : Nat) (l : List UInt8), k ≤ s.size ∧ i = .int .i64 (k : Int) ∧ l.length ≤ k ∧ Fr w wr ∧ Hid (Row w.heap.size wr o l) ∧ Hid (NU.dec false (L s) = (NU.dec false ((L s).drop k)).map (l ++ ·))) (fun _ i _ => s.size - (intOf i).toNat)
  case atStart => exact ⟨0, [], by omega, rfl, by simp, Fr.refl _, Lib.hid (Row.nil _ _), by show _ = _; simp⟩
  case round =>
    obtain ⟨k, l, hk, rfl, hl, hfr, HR, HS⟩ := hrel
    by_cases hlt : k < s.size
    · by_cases hc : ((s[k].toNat : Int) != 37) = true
      · go_wp2_with (at_builtin; refine wpList_pushH rfl _ _ rfl w u4 l s[k] _ hfr (by omega) (by rfl) HR (by rfl) ?_; intro v' w' hf' hr')
        go_round
        case rel =>
          refine ⟨k + 1, l ++ [s[k]], by omega, rfl, by simp; omega, hf', hr', ?_⟩
          show _ = _
          have hne : s[k] ≠ 37 := by intro e; rw [e] at hc; revert hc; decide
          rw [HS.out, drop_cons s k hlt, NU.dec_other _ _ _ hne]
          cases NU.dec false ((L s).drop (k + 1)) <;> simp
        case measure => first | (simp [intOf]; done) | (simp [intOf]; omega)
      · have hc : ((s[k].toNat : Int) != 37) = false := by simpa using hc
        have h37 : s[k] = 37 := by
          have : (s[k].toNat : Int) = 37 := by simpa using hc
          exact UInt8.toNat_inj.1 (by rw [show (37 : UInt8).toNat = 37 from rfl]; omega)
        by_cases h2 : k + 2 < s.size
        · obtain ⟨xa, hxa⟩ : ∃ xa, xa = s[k + 1] := ⟨_, rfl⟩
          obtain ⟨xb, hxb⟩ : ∃ xb, xb = s[k + 2] := ⟨_, rfl⟩
          have HD : Hid (NU.dec false ((L s).drop k) = if 0 ≤ NU.hexv xa ∧ 0 ≤ NU.hexv xb then (NU.dec false ((L s).drop (k + 3))).map (NU.hex2 xa xb :: ·) else none) := by
            show _ = _
            rw [drop_cons s k hlt, drop_cons s (k + 1) (by omega), drop_cons s (k + 2) h2, h37, NU.dec_pct, ← hxa, ← hxb]
          have CA := Lib.hid (fun W => hex_any xa W)
          have CB := Lib.hid (fun W => hex_any xb W)
          have hxa' := hxa.symm
          have hxb' := hxb.symm
          clear hxa hxb h37
          by_cases hA : 0 ≤ NU.hexv xa
          · by_cases hB : 0 ≤ NU.hexv xb
            · have ua := NU.hexv_hi xa
              have ub := NU.hexv_hi xb
              have i1 : (k : Int) + 1 < (s.size : Int) := by omega
              have i2 : (k : Int) + 2 < (s.size : Int) := by omega
              have i3 : (0 : Int) ≤ (k : Int) + 1 := by omega
              have i4 : (0 : Int) ≤ (k : Int) + 2 := by omega
              go_wp2_with (first
                | (go_at_call_of 18 (Value.int .u8 xa.toNat); refine (CA.out _).mono ?_; rintro e w1 ⟨rfl, rfl⟩)
                | (go_at_call_of 18 (Value.int .u8 xb.toNat); refine (CB.out _).mono ?_; rintro e w1 ⟨rfl, rfl⟩))
              have t1 : ((k : Int) + 1).toNat = k + 1 := by omega
              have t2 : ((k : Int) + 2).toNat = k + 2 := by omega
              have w1 : IntKind.i64.wrap ((k : Int) + 1) = (k : Int) + 1 := by rw [IntKind.wrap_i64]; omega
              have w2 : IntKind.i64.wrap ((k : Int) + 2) = (k : Int) + 2 := by rw [IntKind.wrap_i64]; omega
              have w3 : IntKind.i64.wrap (NU.hexv xa * 16) = NU.hexv xa * 16 := by rw [IntKind.wrap_i64]; omega
              have w4 : IntKind.i64.wrap (NU.hexv xa * 16 + NU.hexv xb) = NU.hexv xa * 16 + NU.hexv xb := by rw [IntKind.wrap_i64]; omega
              have w5 : IntKind.u8.wrap (NU.hexv xa * 16 + NU.hexv xb) = ((NU.hex2 xa xb).toNat : Int) := by rw [NU.hex2_nat xa xb hA hB, IntKind.wrap_u8]; omega
              go_region_law (first
                | (refine step_pushH rfl _ _ rfl w u4 l (NU.hex2 xa xb) _ hfr (by omega) (by rfl) HR (by rfl) ?_; intro v' w' hf' hr')
                | (go_simp; go_at_call_of 18 (Value.int .u8 xa.toNat); refine (CA.out _).mono ?_; rintro e w1 ⟨rfl, rfl⟩)
                | (go_simp; go_at_call_of 18 (Value.int .u8 xb.toNat); refine (CB.out _).mono ?_; rintro e w1 ⟨rfl, rfl⟩))
              all_goals
                go_wp2
                go_round
                case rel =>
                  refine ⟨k + 3, l ++ [NU.hex2 xa xb], by omega, rfl, by simp; omega, hf', hr', ?_⟩
                  show _ = _
                  rw [HS.out, HD.out, if_pos ⟨hA, hB⟩]
                  cases NU.dec false ((L s).drop (k + 3)) <;> simp
                case measure => first | (simp [intOf]; done) | (simp [intOf]; omega)
            · have HN : Hid (NU.dec false (L s) = none) := by show _ = _; rw [HS.out, HD.out, if_neg (fun h => hB h.2)]; rfl
              have hB' : NU.hexv xb < 0 := by omega
              clear HS HD
              go_wp2_with (first
                | (go_at_call_of 18 (Value.int .u8 xa.toNat); refine (CA.out _).mono ?_; rintro e w1 ⟨rfl, rfl⟩)
                | (go_at_call_of 18 (Value.int .u8 xb.toNat); refine (CB.out _).mono ?_; rintro e w1 ⟨rfl, rfl⟩))
              all_goals go_ret2
              all_goals exact ⟨ret_sb (by rw [HN.out]; rfl) (by rw [HN.out]; rfl), hfr⟩
          · have HN : Hid (NU.dec false (L s) = none) := by show _ = _; rw [HS.out, HD.out, if_neg (fun h => hA h.1)]; rfl
            have hA' : NU.hexv xa < 0 := by omega
            clear HS HD
            go_wp2_with (first
                | (go_at_call_of 18 (Value.int .u8 xa.toNat); refine (CA.out _).mono ?_; rintro e w1 ⟨rfl, rfl⟩)
                | (go_at_call_of 18 (Value.int .u8 xb.toNat); refine (CB.out _).mono ?_; rintro e w1 ⟨rfl, rfl⟩))
            all_goals go_ret2
            all_goals exact ⟨ret_sb (by rw [HN.out]; rfl) (by rw [HN.out]; rfl), hfr⟩
        · have HN : Hid (NU.dec false (L s) = none) := by
            show _ = _
            rw [HS.out, drop_cons s k hlt, h37, NU.dec_short _ _ (by rw [List.length_drop, L_length]; omega)]; rfl
          have h2' : (s.size : Int) ≤ (k : Int) + 2 := by omega
          clear HS
          go_wp2
          go_ret2
          exact ⟨ret_sb (by rw [HN.out]; rfl) (by rw [HN.out]; rfl), hfr⟩
    · have hkk : k = s.size := by omega
      have HE : Hid (NU.dec false (L s) = some l) := by show _ = _; rw [HS.out, drop_end s k (by omega)]; simp [NU.dec]
      have HC := Lib.hid (Row.string HR.out)
      have hstr := HC.out
      subst hkk
      clear HS hlt
      go_wp2
      go_ret2
      exact ⟨ret_sb (by rw [HE.out]; rfl) (by rw [HE.out]; rfl), hfr⟩
end Go.Proofs.YtibcegbacnjmfaaDoor
