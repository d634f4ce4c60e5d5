import Derived.Test.YtibcegbacnjmfaaGreatDoorW21
import Derived.Test.YtibcegbacnjmfaaGreatDoorP
namespace Go.Proofs.YtibcegbacnjmfaaGreatDoor
set_option linter.unusedVariables false
set_option linter.unusedSimpArgs false
open Go.RowKit

theorem venc_set (m c : UInt8) (n : Int) (h : ((c.toNat : Int) == n) = true) (hn : n ∈ [(33 : Int), 36, 38, 39, 40, 41, 42, 43, 44, 59, 61, 58, 64, 91, 93, 37]) : NU.venc1 m c = true := by
  have h1 : (c.toNat : Int) = n := by simpa using h
  obtain ⟨k, hk⟩ : ∃ k : UInt8, (k.toNat : Int) = n := ⟨c, h1⟩
  have := NU.all_u8 (fun c => !([(33 : Int), 36, 38, 39, 40, 41, 42, 43, 44, 59, 61, 58, 64, 91, 93, 37].contains (c.toNat : Int)) || (NU.mem [33, 36, 38, 39, 40, 41, 42, 43, 44, 59, 61, 58, 64] c || NU.mem [91, 93] c || c == 37)) (by decide +kernel) c
  rw [h1, List.contains_iff_mem.2 hn] at this
  unfold NU.venc1
  simp only [Bool.not_true, Bool.false_or] at this
  rw [this]; rfl
theorem venc_out (m c : UInt8) (h : ∀ n ∈ [(33 : Int), 36, 38, 39, 40, 41, 42, 43, 44, 59, 61, 58, 64, 91, 93, 37], ((c.toNat : Int) == n) = false) : NU.venc1 m c = !NU.should m c := by
  have := NU.all_u8 (fun c => ([(33 : Int), 36, 38, 39, 40, 41, 42, 43, 44, 59, 61, 58, 64, 91, 93, 37].contains (c.toNat : Int)) || !(NU.mem [33, 36, 38, 39, 40, 41, 42, 43, 44, 59, 61, 58, 64] c || NU.mem [91, 93] c || c == 37)) (by decide +kernel) c
  have h2 : ([(33 : Int), 36, 38, 39, 40, 41, 42, 43, 44, 59, 61, 58, 64, 91, 93, 37].contains (c.toNat : Int)) = false := by
    rw [Bool.eq_false_iff]; intro hc
    have := h _ (List.contains_iff_mem.1 hc)
    simp at this
  rw [h2, Bool.false_or, Bool.not_eq_true'] at this
  unfold NU.venc1
  rw [this]; rfl

set_option maxRecDepth 100000 in
set_option maxHeartbeats 4000000 in
theorem validEncoded_any (s : ByteArray) (m : UInt8) (w : World) (ht : Hid (Tab w)) (hs : s.size ≤ 35184372088832) :
    Calls Tryz.prog 61 #[.string s, .int .u8 (m.toNat : Int)] w fun e w' => e = .returned (.bool (NU.venc m (L s))) ∧ w = w' := by
  have C := Lib.hid (fun c W hW => should_any c m W hW)
  go_enter Tryz.func61, Tryz.ntmps61
  go_wp2
  go_loop [5] (fun i => ∃ k : Nat, k ≤ s.size ∧ i = .int .i64 (k : Int) ∧ Hid (NU.venc m (L s) = NU.venc m ((L s).drop k))) (fun i => s.size - (intOf i).toNat)
  case atStart => exact ⟨0, by omega, rfl, by show _ = _; simp⟩
  case round =>
    obtain ⟨k, hk, rfl, HS⟩ := hrel
    by_cases hlt : k < s.size
    · obtain ⟨c, hc⟩ : ∃ c, c = s[k] := ⟨_, rfl⟩
      have HV : Hid (NU.venc m (L s) = (NU.venc1 m c && NU.venc m ((L s).drop (k + 1)))) := by
        show _ = _; rw [HS.out, drop_cons s k hlt, hc]; rfl
      have hc' := hc.symm
      clear HS hc
      go_wp2_with (go_at_call 64; refine (C.out _ _ ht.out).mono ?_; rintro e w' ⟨rfl, rfl⟩)
      all_goals first
        | (go_ret
           have h : NU.should m c = true := by assumption
           have h2 := venc_out m c (by intro n hn; simp only [List.mem_cons, List.not_mem_nil, or_false] at hn; rcases hn with rfl | rfl | rfl | rfl | rfl | rfl | rfl | rfl | rfl | rfl | rfl | rfl | rfl | rfl | rfl | rfl <;> assumption)
           exact ⟨ret_bool (by rw [HV.out, h2, h]; rfl), rfl⟩)
        | (have h : NU.should m c = false := by assumption
           have h2 := venc_out m c (by intro n hn; simp only [List.mem_cons, List.not_mem_nil, or_false] at hn; rcases hn with rfl | rfl | rfl | rfl | rfl | rfl | rfl | rfl | rfl | rfl | rfl | rfl | rfl | rfl | rfl | rfl <;> assumption)
           go_round
           case rel => exact ⟨k + 1, by omega, by first | rfl | go_num, by show _ = _; rw [HV.out, h2, h]; rfl⟩
           case measure => first | (simp [intOf]; done) | (simp [intOf]; omega))
        | (go_round
           case rel => exact ⟨k + 1, by omega, by first | rfl | go_num, by show _ = _; rw [HV.out, venc_set m c 33 (by assumption) (by simp)]; rfl⟩
           case measure => first | (simp [intOf]; done) | (simp [intOf]; omega))
        | (go_round
           case rel => exact ⟨k + 1, by omega, by first | rfl | go_num, by show _ = _; rw [HV.out, venc_set m c 36 (by assumption) (by simp)]; rfl⟩
           case measure => first | (simp [intOf]; done) | (simp [intOf]; omega))
        | (go_round
           case rel => exact ⟨k + 1, by omega, by first | rfl | go_num, by show _ = _; rw [HV.out, venc_set m c 38 (by assumption) (by simp)]; rfl⟩
           case measure => first | (simp [intOf]; done) | (simp [intOf]; omega))
        | (go_round
           case rel => exact ⟨k + 1, by omega, by first | rfl | go_num, by show _ = _; rw [HV.out, venc_set m c 39 (by assumption) (by simp)]; rfl⟩
           case measure => first | (simp [intOf]; done) | (simp [intOf]; omega))
        | (go_round
           case rel => exact ⟨k + 1, by omega, by first | rfl | go_num, by show _ = _; rw [HV.out, venc_set m c 40 (by assumption) (by simp)]; rfl⟩
           case measure => first | (simp [intOf]; done) | (simp [intOf]; omega))
        | (go_round
           case rel => exact ⟨k + 1, by omega, by first | rfl | go_num, by show _ = _; rw [HV.out, venc_set m c 41 (by assumption) (by simp)]; rfl⟩
           case measure => first | (simp [intOf]; done) | (simp [intOf]; omega))
        | (go_round
           case rel => exact ⟨k + 1, by omega, by first | rfl | go_num, by show _ = _; rw [HV.out, venc_set m c 42 (by assumption) (by simp)]; rfl⟩
           case measure => first | (simp [intOf]; done) | (simp [intOf]; omega))
        | (go_round
           case rel => exact ⟨k + 1, by omega, by first | rfl | go_num, by show _ = _; rw [HV.out, venc_set m c 43 (by assumption) (by simp)]; rfl⟩
           case measure => first | (simp [intOf]; done) | (simp [intOf]; omega))
        | (go_round
           case rel => exact ⟨k + 1, by omega, by first | rfl | go_num, by show _ = _; rw [HV.out, venc_set m c 44 (by assumption) (by simp)]; rfl⟩
           case measure => first | (simp [intOf]; done) | (simp [intOf]; omega))
        | (go_round
           case rel => exact ⟨k + 1, by omega, by first | rfl | go_num, by show _ = _; rw [HV.out, venc_set m c 59 (by assumption) (by simp)]; rfl⟩
           case measure => first | (simp [intOf]; done) | (simp [intOf]; omega))
        | (go_round
           case rel => exact ⟨k + 1, by omega, by first | rfl | go_num, by show _ = _; rw [HV.out, venc_set m c 61 (by assumption) (by simp)]; rfl⟩
           case measure => first | (simp [intOf]; done) | (simp [intOf]; omega))
        | (go_round
           case rel => exact ⟨k + 1, by omega, by first | rfl | go_num, by show _ = _; rw [HV.out, venc_set m c 58 (by assumption) (by simp)]; rfl⟩
           case measure => first | (simp [intOf]; done) | (simp [intOf]; omega))
        | (go_round
           case rel => exact ⟨k + 1, by omega, by first | rfl | go_num, by show _ = _; rw [HV.out, venc_set m c 64 (by assumption) (by simp)]; rfl⟩
           case measure => first | (simp [intOf]; done) | (simp [intOf]; omega))
        | (go_round
           case rel => exact ⟨k + 1, by omega, by first | rfl | go_num, by show _ = _; rw [HV.out, venc_set m c 91 (by assumption) (by simp)]; rfl⟩
           case measure => first | (simp [intOf]; done) | (simp [intOf]; omega))
        | (go_round
           case rel => exact ⟨k + 1, by omega, by first | rfl | go_num, by show _ = _; rw [HV.out, venc_set m c 93 (by assumption) (by simp)]; rfl⟩
           case measure => first | (simp [intOf]; done) | (simp [intOf]; omega))
        | (go_round
           case rel => exact ⟨k + 1, by omega, by first | rfl | go_num, by show _ = _; rw [HV.out, venc_set m c 37 (by assumption) (by simp)]; rfl⟩
           case measure => first | (simp [intOf]; done) | (simp [intOf]; omega))
    · have HF : Hid (NU.venc m (L s) = true) := by show _ = _; rw [HS.out, drop_end s k (by omega)]; rfl
      clear HS
      go_wp2
      go_ret
      exact ⟨ret_bool HF.out.symm, rfl⟩
theorem validEncoded_m (s : ByteArray) (m : UInt8) (mi : Int) (hm : mi = (m.toNat : Int)) (hs : s.size ≤ 35184372088832) (w : World) (ht : Hid (Tab w)) :
    Calls Tryz.prog 61 #[.string s, .int .u8 mi] w fun e w' => e = .returned (.bool (NU.venc m (L s))) ∧ w = w' := by
  subst hm; exact validEncoded_any s m w ht hs
end Go.Proofs.YtibcegbacnjmfaaGreatDoor
