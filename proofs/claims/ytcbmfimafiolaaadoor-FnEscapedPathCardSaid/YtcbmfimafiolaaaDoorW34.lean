import Derived.Test.YtcbmfimafiolaaaDoorW33
namespace Go.Proofs.YtcbmfimafiolaaaDoor
set_option linter.unusedVariables false
set_option linter.unusedSimpArgs false
open Go.RowKit

theorem beq_self (s : ByteArray) : (s.toList == s.toList) = true := by simp
theorem esc_size (m : UInt8) (s : ByteArray) : (mk (NU.esc m (L s))).size ≤ 3 * s.size := by
  have := NU.hexN_le m (L s)
  rw [mk_size, NU.esc_length, L_length]; rw [L_length] at this; omega

set_option maxRecDepth 100000 in
set_option maxHeartbeats 1000000 in
theorem FnPathEscape_any (s : ByteArray) (w : World) (ht : Tab w) :
    Calls Tryd.prog 6 #[.string s] w fun e w' => e = .returned (.bool true) ∧ Fr w w' := by
  by_cases hb : s.size ≤ 2147483647
  · have hz := esc_size 2 s
    obtain ⟨t, hT⟩ : ∃ t, t = mk (NU.esc 2 (L s)) := ⟨_, rfl⟩
    have C1 := Lib.hid (implPathEscape_any s (by omega))
    rw [← hT] at hz C1
    have hd : NU.dec false (L t) = some (L s) := by rw [hT, L_mk]; exact NU.dec_esc false 2 _ (by decide +kernel) (by decide) (fun h => by cases h)
    have hg : NU.chars [58, 64] true (L t) = true := by rw [hT, L_mk]; exact NU.segment_esc _
    have C2 : Hid (∀ W, Tab W → Calls Tryd.prog 12 #[.string t] W fun e w' => e = .returned (.tuple #[.string s, .bool true]) ∧ Fr W w') := by
      show ∀ W, _
      intro W hW
      have := implPathUnescape_any t W hW (by omega)
      rw [hd] at this
      exact this.mono (fun e w' h => ⟨h.1.trans (ret_sb (mk_L s) rfl), h.2⟩)
    have C3 : Hid (∀ W, Calls Tryd.prog 16 #[.string t] W fun e w' => e = .returned (.bool true) ∧ Fr W w') := by
      show ∀ W, _
      intro W
      exact (IsSegment_any t (by omega) W).mono (fun e w' h => ⟨h.1.trans (ret_bool hg), h.2⟩)
    replace ht := Lib.hid ht
    clear hT hd hg hz
    go_enter Tryd.func6, Tryd.ntmps6
    go_wp2_with (first
      | (go_at_call 15; (with_reducible refine (C1.out _ ht).mono ?_); rintro e w1 ⟨rfl, hf1⟩; have ht1 := Lib.hid (ht.out.fr hf1))
      | (go_at_call 12; (with_reducible refine (C2.out _ ht1.out).mono ?_); rintro e w2 ⟨rfl, hf2⟩)
      | (go_at_call 16; (with_reducible refine (C3.out _).mono ?_); rintro e w3 ⟨rfl, hf3⟩))
    go_ret
    exact ⟨rfl, (hf1.trans hf2).trans hf3⟩
  · have hb : 2147483647 < (s.size : Int) := by omega
    go_enter Tryd.func6, Tryd.ntmps6
    go_wp2
    go_ret
    exact ⟨rfl, Fr.refl _⟩

set_option maxRecDepth 100000 in
set_option maxHeartbeats 1000000 in
theorem FnQueryEscape_any (s : ByteArray) (w : World) (ht : Tab w) :
    Calls Tryd.prog 7 #[.string s] w fun e w' => e = .returned (.bool true) ∧ Fr w w' := by
  by_cases hb : s.size ≤ 2147483647
  · have hz := esc_size 32 s
    obtain ⟨t, hT⟩ : ∃ t, t = mk (NU.esc 32 (L s)) := ⟨_, rfl⟩
    have C1 := Lib.hid (implEscape_any s (by omega))
    rw [← hT] at hz C1
    have hd : NU.dec true (L t) = some (L s) := by rw [hT, L_mk]; exact NU.dec_esc true 32 _ (by decide +kernel) (by decide) (fun _ => by decide +kernel)
    have hg := NU.setting_esc (L s)
    have e1 : NU.esc 32 (L s) = L t := by rw [hT, L_mk]
    rw [e1, L_length] at hg
    have C2 : Hid (∀ W, Tab W → Calls Tryd.prog 14 #[.string t] W fun e w' => e = .returned (.tuple #[.string s, .bool true]) ∧ Fr W w') := by
      show ∀ W, _
      intro W hW
      have := implQueryUnescape_any t W hW (by omega)
      rw [hd] at this
      exact this.mono (fun e w' h => ⟨h.1.trans (ret_sb (mk_L s) rfl), h.2⟩)
    have C3 := Lib.hid (IsSetting_yes t (by omega) hg.1 hg.2)
    replace ht := Lib.hid ht
    clear hT hd hg hz e1
    go_enter Tryd.func7, Tryd.ntmps7
    go_wp2_with (first
      | (go_at_call 10; (with_reducible refine (C1.out _ ht).mono ?_); rintro e w1 ⟨rfl, hf1⟩; have ht1 := Lib.hid (ht.out.fr hf1))
      | (go_at_call 14; (with_reducible refine (C2.out _ ht1.out).mono ?_); rintro e w2 ⟨rfl, hf2⟩)
      | (go_at_call 17; (with_reducible refine (C3.out _).mono ?_); rintro e w3 ⟨rfl, hf3⟩))
    go_ret
    exact ⟨rfl, (hf1.trans hf2).trans hf3⟩
  · have hb : 2147483647 < (s.size : Int) := by omega
    go_enter Tryd.func7, Tryd.ntmps7
    go_wp2
    go_ret
    exact ⟨rfl, Fr.refl _⟩

set_option maxRecDepth 100000 in
set_option maxHeartbeats 1000000 in
theorem FnQueryUnescape_any (s : ByteArray) (w : World) (ht : Tab w) :
    Calls Tryd.prog 5 #[.string s] w fun e w' => e = .returned (.bool true) ∧ Fr w w' := by
  by_cases hb : s.size ≤ 2147483647
  · obtain ⟨p, hp⟩ : ∃ p, p = mk (NU.plus (L s)) := ⟨_, rfl⟩
    have CP := Lib.hid (Plus_any s (by omega))
    rw [← hp] at CP
    have hpz : p.size = s.size := by rw [hp, mk_size, plus_len, L_length]
    have C1 := Lib.hid (fun W => Decode_any p W (by omega))
    have e1 : NU.dec false (L p) = NU.dec true (L s) := by rw [hp, L_mk]; exact NU.dec_plus _ _ (Nat.le_refl _)
    rw [e1] at C1
    have C2 := Lib.hid (fun W (hW : Tab W) => implQueryUnescape_any s W hW (by omega))
    replace ht := Lib.hid ht
    clear hp hpz e1
    cases hd : NU.dec true (L s)
    all_goals
      rw [hd] at C1 C2
      clear hd
      go_enter Tryd.func5, Tryd.ntmps5
      go_wp2_with (first
        | (go_at_call 13; (with_reducible refine (CP.out _).mono ?_); rintro e w0 ⟨rfl, hf0⟩; have ht0 := ht.out.fr hf0; replace ht0 := Lib.hid ht0)
        | (go_at_call 11; (with_reducible refine (C1.out _).mono ?_); rintro e w1 ⟨rfl, hf1⟩; have ht1 := Lib.hid (ht0.out.fr hf1))
        | (go_at_call 14; (with_reducible refine (C2.out _ ht1.out).mono ?_); rintro e w2 ⟨rfl, hf2⟩))
      go_ret
      exact ⟨rfl, (hf0.trans hf1).trans hf2⟩
  · have hb : 2147483647 < (s.size : Int) := by omega
    go_enter Tryd.func5, Tryd.ntmps5
    go_wp2
    go_ret
    exact ⟨rfl, Fr.refl _⟩

theorem wantQ_take (s : ByteArray) (k : Nat) (h : k < s.size) (c : UInt8) (hc : c = s[k]) : NU.wantQ ((L s).take (k + 1)) = NU.wantQ ((L s).take k) ++ NU.wantQ1 c := by
  have e1 : (L s).take (k + 1) = (L s).take k ++ [c] := by
    rw [List.take_succ_eq_append_getElem (by rw [L_length]; exact h), hc]; rfl
  rw [e1, NU.wantQ_app]; simp [NU.wantQ]

set_option maxRecDepth 100000 in
set_option maxHeartbeats 2000000 in
theorem FnEscape_any (s : ByteArray) (w : World) (ht : Tab w) :
    Calls Tryd.prog 3 #[.string s] w fun e w' => e = .returned (.bool true) ∧ Fr w w' := by
  by_cases hb : s.size ≤ 2147483647
  · have C1 := Lib.hid (implEscape_any s (by omega))
    rw [NU.wantQ_esc] at C1
    replace ht := Lib.hid ht
    have hbI : (s.size : Int) ≤ 2147483647 := by omega
    go_enter Tryd.func3, Tryd.ntmps3
    go_wp2
    go_loopw [3, 10] (fun o i wr => ∃ (k : Nat) (b : ByteArray), k ≤ s.size ∧ i = .int .i64 (k : Int) ∧ o = .string b ∧ b.size ≤ 3 * k ∧ Fr w wr ∧ Hid (L b = NU.wantQ ((L s).take k))) (fun _ i _ => s.size - (intOf i).toNat)
    case atStart => exact ⟨0, ⟨#[]⟩, by omega, rfl, rfl, Nat.le_refl _, Fr.refl _, by show _ = _; simp [NU.wantQ, L]⟩
    case round =>
      obtain ⟨k, b, hk, rfl, rfl, hbz, hfr, HB⟩ := hrel
      by_cases hlt : k < s.size
      · obtain ⟨c, hc⟩ : ∃ c, c = s[k] := ⟨_, rfl⟩
        have HE := Lib.hid (wantQ_take s k hlt c hc)
        obtain ⟨x, hx⟩ : ∃ x, x = s.extract k (k + 1) := ⟨_, rfl⟩
        have hX : L x = [c] := by rw [hx]; exact one_ext s k hlt c hc
        have hxz : x.size = 1 := by rw [← L_length, hX]; rfl
        have CE := Lib.hid (fun W => Element_any x W (by omega))
        rw [hX] at CE
        have e0 : NU.elem [c] = NU.elem1 c := by simp [NU.elem]
        rw [e0] at CE
        have hel := NU.elem1_len c
        obtain ⟨y, hy⟩ : ∃ y, y = mk (NU.elem1 c) := ⟨_, rfl⟩
        have hyz : y.size ≤ 3 := by rw [hy, mk_size]; exact hel
        rw [← hy] at CE
        have HY : Hid (L y = NU.elem1 c) := by show _ = _; rw [hy, L_mk]
        have hc' := hc.symm
        have hx' := hx.symm
        have b1 := u8beq c 32
        have b2 := u8beq c 47
        clear hc hx hX hxz e0 hel hy
        by_cases h32 : ((c.toNat : Int) == 32) = true
        · have hw : NU.wantQ1 c = [43] := by rw [NU.wantQ1, ← b1, show ((32 : UInt8).toNat : Int) = 32 from rfl, h32]; rfl
          rw [hw] at HE
          clear b1 b2 hw
          go_wp2
          go_roundw
          case rel => exact ⟨k + 1, _, by omega, by first | rfl | go_num, rfl, by rw [ByteArray.size_append]; (have : (⟨#[43]⟩ : ByteArray).size = 1 := rfl); omega, hfr, by show _ = _; rw [L_app, HB.out, HE.out]⟩
          case measure => first | (simp [intOf]; done) | (simp [intOf]; omega)
        · have h32 : ((c.toNat : Int) == 32) = false := by simpa using h32
          by_cases h47 : ((c.toNat : Int) == 47) = true
          · have hw : NU.wantQ1 c = [37, 50, 70] := by rw [NU.wantQ1, ← b1, show ((32 : UInt8).toNat : Int) = 32 from rfl, h32, ← b2, show ((47 : UInt8).toNat : Int) = 47 from rfl, h47]; rfl
            rw [hw] at HE
            clear b1 b2 hw
            go_wp2
            go_roundw
            case rel => exact ⟨k + 1, _, by omega, by first | rfl | go_num, rfl, by rw [ByteArray.size_append]; (have : (⟨#[37, 50, 70]⟩ : ByteArray).size = 3 := rfl); omega, hfr, by show _ = _; rw [L_app, HB.out, HE.out]⟩
            case measure => first | (simp [intOf]; done) | (simp [intOf]; omega)
          · have h47 : ((c.toNat : Int) == 47) = false := by simpa using h47
            have hw : NU.wantQ1 c = NU.elem1 c := by rw [NU.wantQ1, ← b1, show ((32 : UInt8).toNat : Int) = 32 from rfl, h32, ← b2, show ((47 : UInt8).toNat : Int) = 47 from rfl, h47]; rfl
            rw [hw] at HE
            clear b1 b2 hw
            go_wp2_with (go_at_call 9; (with_reducible refine (CE.out _).mono ?_); rintro e w3 ⟨rfl, hf3⟩)
            go_roundw
            case rel => exact ⟨k + 1, _, by omega, by first | rfl | go_num, rfl, by rw [ByteArray.size_append]; omega, hfr.trans hf3, by show _ = _; rw [L_app, HB.out, HE.out, HY.out]⟩
            case measure => first | (simp [intOf]; done) | (simp [intOf]; omega)
      · have HF : Hid (mk (NU.wantQ (L s)) = b) := by
          show _ = _
          rw [← mk_L b, HB.out, List.take_of_length_le (by rw [L_length]; omega)]
        rw [HF.out] at C1
        have q := beq_self b
        go_wp2_with (go_at_call 10; (with_reducible refine (C1.out _ (Lib.hid (ht.out.fr hfr))).mono ?_); rintro e w1 ⟨rfl, hf1⟩)
        go_ret
        exact ⟨rfl, hfr.trans hf1⟩
  · have hb : 2147483647 < (s.size : Int) := by omega
    go_enter Tryd.func3, Tryd.ntmps3
    go_wp2
    go_ret
    exact ⟨rfl, Fr.refl _⟩
end Go.Proofs.YtcbmfimafiolaaaDoor
