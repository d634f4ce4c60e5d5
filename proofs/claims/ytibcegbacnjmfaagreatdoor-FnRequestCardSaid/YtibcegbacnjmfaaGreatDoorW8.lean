import Derived.Test.YtibcegbacnjmfaaGreatDoorW1
import Derived.Test.YtibcegbacnjmfaaGreatDoorP
namespace Go.Proofs.YtibcegbacnjmfaaGreatDoor
set_option linter.unusedVariables false
set_option linter.unusedSimpArgs false
open Go.RowKit

theorem ret_sse {a b c d : ByteArray} {v : Value} (h : a = c) (h' : b = d) : Ending.returned (.tuple #[.string a, .string b, v]) = .returned (.tuple #[.string c, .string d, v]) := by rw [h, h']

/-- An error value: an interface value that is not nil. -/
def IsErr (v : Value) : Prop := ∃ (t : TypeId) (a : Addr), v = .iface t (.pointer (some a))

/-- getScheme's two kinds of answers. -/
def GsPost (l : List UInt8) (w : World) (e : Ending) (w' : World) : Prop :=
  (NU.gsc 0 l ≠ -2 ∧ e = .returned (.tuple #[.string (mk (NU.gsS l)), .string (mk (NU.gsR l)), .nilIface]) ∧ Fr w w') ∨
  (NU.gsc 0 l = -2 ∧ ∃ v, IsErr v ∧ e = .returned (.tuple #[.string (mk []), .string (mk []), v]) ∧ Fr w w')

theorem gsPost_none {l : List UInt8} {w w' : World} {e : Ending} (h : NU.gsc 0 l = -1) (he : e = .returned (.tuple #[.string (mk []), .string (mk l), .nilIface])) (hf : Fr w w') : GsPost l w e w' :=
  .inl ⟨by omega, by rw [he, NU.gsS, NU.gsR, if_neg (by omega), if_neg (by omega)], hf⟩
theorem gsPost_some {l : List UInt8} {w w' : World} {e : Ending} {k : Nat} (h : NU.gsc 0 l = k) (he : e = .returned (.tuple #[.string (mk (l.take k)), .string (mk (l.drop (k + 1))), .nilIface])) (hf : Fr w w') : GsPost l w e w' :=
  .inl ⟨by omega, by rw [he, NU.gsS, NU.gsR, if_pos (by omega), if_pos (by omega), h]; simp, hf⟩

set_option maxHeartbeats 1000000 in
theorem getScheme_any (s : ByteArray) (w : World) (hs : s.size ≤ 35184372088832) :
    Calls Tryz.prog 54 #[.string s] w fun e w' => GsPost (L s) w e w' := by
  go_enter Tryz.func54, Tryz.ntmps54
  go_wp2
  go_loop [5] (fun i => ∃ k : Nat, k ≤ s.size ∧ i = .int .i64 (k : Int) ∧ Hid (NU.gsc 0 (L s) = NU.gsc k ((L s).drop k))) (fun i => s.size - (intOf i).toNat)
  case atStart => exact ⟨0, by omega, rfl, rfl⟩
  case round =>
    obtain ⟨k, hk, rfl, HS⟩ := hrel
    by_cases hlt : k < s.size
    · have HD := Lib.hid (drop_cons s k hlt)
      by_cases ha : NU.isAlpha s[k] = true
      · have HN : Hid (NU.gsc 0 (L s) = NU.gsc (k + 1) ((L s).drop (k + 1))) := by show _ = _; rw [HS.out, HD.out, NU.gsc_alpha _ _ ha]
        have h1 : (97 ≤ (s[k].toNat : Int) ∧ (s[k].toNat : Int) ≤ 122) ∨ (65 ≤ (s[k].toNat : Int) ∧ (s[k].toNat : Int) ≤ 90) := by simp [NU.isAlpha] at ha; omega
        clear HS HD ha
        rcases h1 with ⟨h1, h2⟩ | ⟨h1, h2⟩
        all_goals
          go_wp2
          go_round
          case rel => exact ⟨k + 1, by omega, by go_num, HN⟩
          case measure => simp [intOf]; omega
      · have ha : NU.isAlpha s[k] = false := by simpa using ha
        have h1 : ¬ (97 ≤ (s[k].toNat : Int) ∧ (s[k].toNat : Int) ≤ 122) := by simp [NU.isAlpha] at ha; omega
        have h2 : ¬ (65 ≤ (s[k].toNat : Int) ∧ (s[k].toNat : Int) ≤ 90) := by simp [NU.isAlpha] at ha; omega
        by_cases hd : (NU.isDigit s[k] || NU.mem [43, 45, 46] s[k]) = true
        · have h3 : (48 ≤ (s[k].toNat : Int) ∧ (s[k].toNat : Int) ≤ 57) ∨ (s[k].toNat : Int) = 43 ∨ (s[k].toNat : Int) = 45 ∨ (s[k].toNat : Int) = 46 := by
            simp [NU.isDigit, NU.mem, ← UInt8.toNat_inj] at hd; omega
          by_cases hk0 : k = 0
          · have HN : Hid (NU.gsc 0 (L s) = -1) := by
              show _ = _; rw [HS.out, HD.out]
              have e : ∀ (q : Nat) (c : UInt8) (r : List UInt8), q = 0 → NU.isAlpha c = false → (NU.isDigit c || NU.mem [43, 45, 46] c) = true → NU.gsc q (c :: r) = -1 := by
                rintro q c r rfl a b; exact NU.gsc_digit0 r a b
              exact e k _ _ hk0 ha hd
            have hk1 : ((k : Int) == 0) = true := beq_iff_eq.2 (by omega)
            clear HS HD ha hd hk0
            rcases h3 with ⟨h3, h4⟩ | h3 | h3 | h3
            all_goals
              go_wp2
              go_ret3
              exact gsPost_none HN.out (ret_sse rfl (mk_L s).symm) (Fr.refl _)
          · have HN : Hid (NU.gsc 0 (L s) = NU.gsc (k + 1) ((L s).drop (k + 1))) := by show _ = _; rw [HS.out, HD.out, NU.gsc_digit _ _ ha hd hk0]
            have hk1 : ((k : Int) == 0) = false := beq_eq_false_iff_ne.2 (by omega)
            clear HS HD ha hd hk0
            rcases h3 with ⟨h3, h4⟩ | h3 | h3 | h3
            all_goals
              go_wp2
              go_round
              case rel => exact ⟨k + 1, by omega, by go_num, HN⟩
              case measure => simp [intOf]; omega
        · have hd : (NU.isDigit s[k] || NU.mem [43, 45, 46] s[k]) = false := by simpa using hd
          have h3 : ¬ (48 ≤ (s[k].toNat : Int) ∧ (s[k].toNat : Int) ≤ 57) := by simp [NU.isDigit] at hd; omega
          have h4 : ¬ (s[k].toNat : Int) = 43 := by simp [NU.mem, ← UInt8.toNat_inj] at hd; omega
          have h5 : ¬ (s[k].toNat : Int) = 45 := by simp [NU.mem, ← UInt8.toNat_inj] at hd; omega
          have h6 : ¬ (s[k].toNat : Int) = 46 := by simp [NU.mem, ← UInt8.toNat_inj] at hd; omega
          have g4 : ((s[k].toNat : Int) == 43) = false := beq_eq_false_iff_ne.2 h4
          have g5 : ((s[k].toNat : Int) == 45) = false := beq_eq_false_iff_ne.2 h5
          have g6 : ((s[k].toNat : Int) == 46) = false := beq_eq_false_iff_ne.2 h6
          have h1' : (s[k].toNat : Int) < 97 ∨ (97 ≤ (s[k].toNat : Int) ∧ 122 < (s[k].toNat : Int)) := by omega
          have h2' : (s[k].toNat : Int) < 65 ∨ (65 ≤ (s[k].toNat : Int) ∧ 90 < (s[k].toNat : Int)) := by omega
          have h3' : (s[k].toNat : Int) < 48 ∨ (48 ≤ (s[k].toNat : Int) ∧ 57 < (s[k].toNat : Int)) := by omega
          by_cases hc : s[k] = 58
          · have hc1 : (s[k].toNat : Int) = 58 := by rw [hc]; rfl
            by_cases hk0 : k = 0
            · have HN : Hid (NU.gsc 0 (L s) = -2) := by
                show _ = _; rw [HS.out, HD.out, hc]
                have e : ∀ (q : Nat) (r : List UInt8), q = 0 → NU.gsc q (58 :: r) = -2 := by rintro q r rfl; exact NU.gsc_colon0 r
                exact e k _ hk0
              have hk1 : ((k : Int) == 0) = true := beq_iff_eq.2 (by omega)
              clear HS HD ha hd hk0 hc h1 h2 h3 h4 h5 h6 g4 g5 g6 h1' h2' h3'
              go_wp2
              go_ret3
              exact .inr ⟨HN.out, _, ⟨_, _, rfl⟩, ret_sse rfl rfl, (Fr.refl _).alloc _⟩
            · have HN : Hid (NU.gsc 0 (L s) = k) := by show _ = _; rw [HS.out, HD.out, hc, NU.gsc_colon _ _ hk0]
              have hk1 : ((k : Int) == 0) = false := beq_eq_false_iff_ne.2 (by omega)
              have hk2 : k + 1 ≤ s.size := hlt
              clear HS HD ha hd hk0 hc h1 h2 h3 h4 h5 h6 g4 g5 g6 h1' h2' h3'
              go_wp2
              go_quiet (fail)
              go_wp2
              go_ret3
              exact gsPost_some HN.out (ret_sse (ext_to s k) (ext_from s (k + 1))) ((Fr.refl _).drewN _)
          · have HN : Hid (NU.gsc 0 (L s) = -1) := by show _ = _; rw [HS.out, HD.out, NU.gsc_other _ _ ha hd hc]
            have g7 : ((s[k].toNat : Int) == 58) = false := beq_eq_false_iff_ne.2 (by rw [Ne, show (58 : Int) = ((58 : UInt8).toNat : Int) from rfl]; intro h; exact hc (UInt8.toNat_inj.1 (by omega)))
            clear HS HD ha hd hc h1 h2 h3 h4 h5 h6
            rcases h1' with h1 | ⟨h1, h1'⟩
            all_goals rcases h2' with h2 | ⟨h2, h2'⟩
            all_goals rcases h3' with h3 | ⟨h3, h3'⟩
            all_goals first
              | (exfalso; omega)
              | (go_wp2
                 go_ret3
                 exact gsPost_none HN.out (ret_sse rfl (mk_L s).symm) (Fr.refl _))
    · have HN : Hid (NU.gsc 0 (L s) = -1) := by show _ = _; rw [HS.out, drop_end s k (by omega)]; rfl
      clear HS
      go_wp2
      go_ret3
      exact gsPost_none HN.out (ret_sse rfl (mk_L s).symm) (Fr.refl _)
end Go.Proofs.YtibcegbacnjmfaaGreatDoor
