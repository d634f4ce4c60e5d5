import Derived.Test.YtcbmfimafiolaaaW14
import Derived.Test.YtcbmfimafiolaaaW6
import Derived.Deep.DeepCutAuto
namespace Go.Proofs.Ytcbmfimafiolaaa
set_option linter.unusedVariables false
set_option linter.unusedSimpArgs false
open Go.RowKit

set_option maxRecDepth 100000 in
set_option maxHeartbeats 1000000 in
theorem splitHostPort_any (s : ByteArray) (w : World) (hs : s.size ≤ 1099511627776) :
    Calls Try.prog 48 #[.string s] w fun e w' => e = .returned (.tuple #[.string (mk (NU.shH (L s))), .string (mk (NU.shP (L s)))]) ∧ Fr w w' := by
  obtain ⟨i, hi⟩ : ∃ i, i = NU.lastIdx 58 (L s) := ⟨_, rfl⟩
  have hlo : -1 ≤ i := hi ▸ NU.lastIdx_lo _ _
  have hhi : i < s.size := by rw [hi, ← L_length]; exact NU.lastIdx_hi _ _
  have CI := Lib.hid (fun W => LastIndexByte_any s 58 W hs)
  rw [← hi] at CI
  have HI := Lib.hid hi
  clear hi
  go_enter Try.func48, Try.ntmps48
  go_upto_region 3 with (go_at_call 55; refine (CI.out _).mono ?_; rintro e w' ⟨rfl, rfl⟩)
  go_cut [15] (fun c wx => c = .bool (NU.shOk (L s)) ∧ Fr w wx)
  case first =>
    by_cases h : i = -1
    · have HK : Hid (NU.shOk (L s) = false) := by show _ = _; rw [NU.shOk, ← HI.out, h]; rfl
      have h1 : (i != -1) = false := by simp [h]
      have h2 : (i == -1) = true := by simp [h]
      clear h
      go_wp2
      go_meet
      case rel => exact ⟨by rw [HK.out], Fr.refl _⟩
    · have h1 : (i != -1) = true := by simpa using h
      obtain ⟨j, rfl⟩ := Int.eq_ofNat_of_zero_le (show 0 ≤ i by omega)
      have hj : j ≤ s.size := by omega
      obtain ⟨p, hp⟩ : ∃ p, p = s.extract j s.size := ⟨_, rfl⟩
      have HP : Hid (L p = (L s).drop j) := by show _ = _; rw [hp, ext_from, L_mk]
      have hpz : p.size ≤ 1099511627776 := by rw [← L_length, HP.out, List.length_drop, L_length]; omega
      have hp' := hp.symm
      have HK : Hid (NU.shOk (L s) = NU.optPort (L p)) := by show _ = _; rw [NU.shOk, ← HI.out, HP.out, Int.toNat_natCast]; simp
      clear h hp
      go_wp2_with (go_at_call 43; refine (validOptionalPort_any p _ hpz).mono ?_; rintro e w1 ⟨rfl, hf1⟩)
      all_goals go_meet
      all_goals
        case rel => exact ⟨by rw [HK.out], by first | assumption | exact Fr.refl _⟩
  case rest =>
  obtain ⟨rfl, hf⟩ := hcut
  go_upto_if 15 with fail
  go_cut [2, 3] (fun c d wx => c = .string (mk (NU.sh0 (L s))) ∧ d = .string (mk (NU.shP (L s))) ∧ Fr w wx)
  case first =>
    by_cases h : NU.shOk (L s) = true
    · have h0 : 0 ≤ i := by
        have := h; rw [NU.shOk, ← HI.out] at this; simp at this; exact this.1
      obtain ⟨j, rfl⟩ := Int.eq_ofNat_of_zero_le h0
      have hj : j + 1 ≤ s.size := by omega
      have HE : Hid (mk (NU.sh0 (L s)) = s.extract 0 j ∧ mk (NU.shP (L s)) = s.extract (j + 1) s.size) := by
        show _ ∧ _; rw [NU.sh0, NU.shP, if_pos h, if_pos h, ← HI.out, ext_to, ext_from, Int.toNat_natCast]; exact ⟨rfl, rfl⟩
      rw [h]
      clear h
      go_wp2
      go_quiet (fail)
      go_wp2
      go_meet
      case rel => exact ⟨by rw [HE.out.1], by rw [HE.out.2], hf.drewN _⟩
    · have h : NU.shOk (L s) = false := by simpa using h
      have HE : Hid (mk (NU.sh0 (L s)) = s ∧ mk (NU.shP (L s)) = ⟨#[]⟩) := by
        show _ ∧ _; rw [NU.sh0, NU.shP, h]; exact ⟨mk_L s, rfl⟩
      rw [h]
      clear h
      go_wp2
      go_meet
      case rel => exact ⟨by rw [HE.out.1], by rw [HE.out.2], hf⟩
  case rest =>
  obtain ⟨rfl, rfl, hf⟩ := hcut
  obtain ⟨t, ht⟩ : ∃ t, t = mk (NU.sh0 (L s)) := ⟨_, rfl⟩
  have HT : Hid (L t = NU.sh0 (L s)) := by show _ = _; rw [ht, L_mk]
  have htz : t.size ≤ 1099511627776 := by
    rw [← L_length, HT.out]; unfold NU.sh0; split
    · rw [List.length_take, L_length]; omega
    · rw [L_length]; omega
  rw [← ht]
  clear ht CI HI hlo hhi
  have C1 := Lib.hid (fun W => HasPrefix_any t ⟨#[91]⟩ W htz (by show (1 : Nat) ≤ 1099511627776; omega))
  have C2 := Lib.hid (fun W => HasSuffix_any t ⟨#[93]⟩ W htz (by show (1 : Nat) ≤ 1099511627776; omega))
  rw [show L ⟨#[91]⟩ = [91] from rfl] at C1
  rw [show L ⟨#[93]⟩ = [93] from rfl] at C2
  obtain ⟨a, ha⟩ : ∃ a, a = NU.begins (L t) [91] := ⟨_, rfl⟩
  obtain ⟨b, hb⟩ : ∃ b, b = NU.ends (L t) [93] := ⟨_, rfl⟩
  have HB : Hid (NU.shB (NU.sh0 (L s)) = (a && b)) := by show _ = _; rw [NU.shB, ← HT.out, ha, hb]
  have h2 : (a && b) = true → 2 ≤ t.size := by
    rw [ha, hb]
    intro h
    simp only [Bool.and_eq_true, NU.begins, NU.ends, List.isPrefixOf_iff_prefix, List.isSuffixOf_iff_suffix] at h
    obtain ⟨⟨r, hr⟩, q, hq⟩ := h
    rw [← L_length]
    rw [← hr] at hq ⊢
    cases r with
    | nil => cases q <;> simp at hq
    | cons x r => simp
  rw [← ha] at C1
  rw [← hb] at C2
  clear ha hb
  by_cases hab : (a && b) = true
  · have h3 := h2 hab
    obtain ⟨m, hm⟩ : ∃ m, t.size = m + 1 := ⟨t.size - 1, by omega⟩
    have e1 : (t.size : Int) - 1 = (m : Int) := by omega
    have h5 : 1 ≤ m := by omega
    have h6 : m ≤ t.size := by omega
    have HH : Hid (mk (NU.shH (L s)) = t.extract 1 m) := by
      show _ = _; rw [NU.shH, HB.out, if_pos hab, ext_mk, ← HT.out, L_length, show t.size - 2 = m - 1 by omega]
    simp only [Bool.and_eq_true] at hab
    rw [hab.1] at C1
    rw [hab.2] at C2
    clear h2 h3 hm hab HB HT
    go_wp2_with (first
      | (go_at_call 56; refine (C1.out _).mono ?_; rintro e w' ⟨rfl, rfl⟩)
      | (go_at_call 57; refine (C2.out _).mono ?_; rintro e w' ⟨rfl, rfl⟩))
    go_ret2
    exact ⟨ret_ss HH.out.symm rfl, hf⟩
  · have hab' : (a && b) = false := by simpa using hab
    have HH : Hid (mk (NU.shH (L s)) = t) := by
      show _ = _; rw [NU.shH, HB.out, if_neg hab, ← HT.out, mk_L]
    clear h2 hab HB HT
    cases a
    · go_wp2_with (first
        | (go_at_call 56; refine (C1.out _).mono ?_; rintro e w' ⟨rfl, rfl⟩)
        | (go_at_call 57; refine (C2.out _).mono ?_; rintro e w' ⟨rfl, rfl⟩))
      go_ret2
      exact ⟨ret_ss HH.out.symm rfl, hf⟩
    · obtain rfl : b = false := by simpa using hab'
      clear hab'
      go_wp2_with (first
        | (go_at_call 56; refine (C1.out _).mono ?_; rintro e w' ⟨rfl, rfl⟩)
        | (go_at_call 57; refine (C2.out _).mono ?_; rintro e w' ⟨rfl, rfl⟩))
      go_ret2
      exact ⟨ret_ss HH.out.symm rfl, hf⟩
end Go.Proofs.Ytcbmfimafiolaaa
