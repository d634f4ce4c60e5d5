import Derived.Test.YtibcegbacnjmfaaGreatDoorW32
namespace Go.Proofs.YtibcegbacnjmfaaGreatDoor
set_option linter.unusedVariables false
set_option linter.unusedSimpArgs false
open Go.RowKit

set_option maxRecDepth 100000 in
set_option maxHeartbeats 4000000 in
theorem urlEscapedFragment_hint (g : Nat) (U : UrlR) (w : World) (h : Hid (UrlIs w g U)) (ht : Hid (Tab w)) (h1 : U.fragment.size ≤ 274877906944) (h2 : U.rawFragment.size ≤ 274877906944) (hk : NU.hintOk 64 (L U.fragment) (L U.rawFragment) = true) :
    Calls Tryz.prog 38 #[.pointer (some ⟨g, 0, none⟩)] w fun e w' => e = .returned (.string (mk (NU.escFrag (L U.fragment) (L U.rawFragment)))) ∧ Fr w w' := by
  have HR : Hid (NU.escFrag (L U.fragment) (L U.rawFragment) = L U.rawFragment) := by show _ = _; rw [NU.escFrag, if_pos hk]
  obtain ⟨p, hp⟩ : ∃ p, p = U.fragment := ⟨_, rfl⟩
  obtain ⟨r, hr⟩ : ∃ r, r = U.rawFragment := ⟨_, rfl⟩
  have hk' := hk
  unfold NU.hintOk at hk'
  rw [Bool.and_eq_true, Bool.and_eq_true] at hk'
  obtain ⟨⟨k1, k2⟩, k3⟩ := hk'
  have k3 : NU.dec false (L U.rawFragment) = some (L U.fragment) := by simpa using k3
  have k1 : ¬ L U.rawFragment = [] := by intro e; rw [e] at k1; cases k1
  have C1 := Lib.hid (validEncoded_m U.rawFragment 64 64 rfl (by omega))
  have C2 := Lib.hid (fun W (hW : Hid (Tab W)) => unescape_any U.rawFragment 64 false W hW.out (by omega) rfl rfl rfl)
  have c0 := h.out.cells.2.2.2.2.2.2.2.1
  rw [k2] at C1
  rw [k3] at C2
  rw [← hr] at k1 C1 C2 c0 HR h2
  rw [← hp] at C2 h1 HR
  have q0 := L_nempty k1
  have hmk : mk (L p) = p := mk_L p
  have q2 : (p.toList == p.toList) = true := by simp
  have hp' := Lib.hid hp
  have hr' := Lib.hid hr
  clear k1 k2 k3 hk hp hr
  go_enter Tryz.func38, Tryz.ntmps38
  go_wp2_with (first
    | (go_at_call 61; (with_reducible refine (C1.out _ ht).mono ?_); rintro e w1 ⟨rfl, rfl⟩)
    | (go_at_call 60; (with_reducible refine (C2.out _ ht).mono ?_); rintro e w2 ⟨⟨ev, rfl, rfl⟩, hf2⟩; have hc2 := ((h.out.fr hf2).cells.2.2.2.2.1); rw [← hp'.out] at hc2; have hc3 := ((h.out.fr hf2).cells.2.2.2.2.2.2.2.1); rw [← hr'.out] at hc3))
  go_ret
  exact ⟨ret_str (by rw [← hp'.out, ← hr'.out, HR.out, mk_L]), hf2⟩

set_option maxRecDepth 100000 in
set_option maxHeartbeats 4000000 in
theorem urlEscapedFragment_own (g : Nat) (U : UrlR) (w : World) (h : Hid (UrlIs w g U)) (ht : Hid (Tab w)) (h1 : U.fragment.size ≤ 274877906944) (h2 : U.rawFragment.size ≤ 274877906944) (hk : NU.hintOk 64 (L U.fragment) (L U.rawFragment) = false) :
    Calls Tryz.prog 38 #[.pointer (some ⟨g, 0, none⟩)] w fun e w' => e = .returned (.string (mk (NU.escFrag (L U.fragment) (L U.rawFragment)))) ∧ Fr w w' := by
  have HR : Hid (NU.escFrag (L U.fragment) (L U.rawFragment) = NU.esc 64 (L U.fragment)) := by show _ = _; rw [NU.escFrag, hk]; rfl
  obtain ⟨p, hp⟩ : ∃ p, p = U.fragment := ⟨_, rfl⟩
  obtain ⟨r, hr⟩ : ∃ r, r = U.rawFragment := ⟨_, rfl⟩
  have cj := h.out.cells.2.2.2.2.2.2.2.1
  have ci := h.out.cells.2.2.2.2.1
  rw [← hr] at cj h2
  rw [← hp] at ci h1
  have CE := Lib.hid (escape_m p 64 64 rfl (by omega))
  have C1 := Lib.hid (validEncoded_m r 64 64 rfl (by omega))
  have C2 := Lib.hid (fun W (hW : Hid (Tab W)) => unescape_any r 64 false W hW.out (by omega) rfl rfl rfl)
  have hp' := Lib.hid hp
  rw [← hp, ← hr] at hk HR
  have hcase : L r = [] ∨ (¬ L r = [] ∧ NU.venc 64 (L r) = false) ∨ (¬ L r = [] ∧ NU.venc 64 (L r) = true ∧ NU.dec false (L r) = none) ∨ (¬ L r = [] ∧ NU.venc 64 (L r) = true ∧ ∃ q, NU.dec false (L r) = some q ∧ ¬ q = L p) := by
    by_cases k0 : L r = []
    · exact .inl k0
    · right
      cases k1 : NU.venc 64 (L r)
      · exact .inl ⟨k0, rfl⟩
      · right
        cases k2 : NU.dec false (L r) with
        | none => exact .inl ⟨k0, rfl, rfl⟩
        | some q =>
          refine .inr ⟨k0, rfl, q, rfl, ?_⟩
          intro e
          unfold NU.hintOk at hk
          rw [k1, k2, e] at hk
          cases hl : L r with
          | nil => exact k0 hl
          | cons a b => rw [hl] at hk; simp at hk
  rw [← hp]
  rw [← hr]
  clear hp hr hk
  rcases hcase with k0 | ⟨k0, k1⟩ | ⟨k0, k1, k2⟩ | ⟨k0, k1, q, k2, k3⟩
  · have q0 := L_empty k0
    clear k0
    go_enter Tryz.func38, Tryz.ntmps38
    go_wp2_with (first
      | (go_at_call 45; (with_reducible refine (CE.out _ (by first | exact ht | exact Lib.hid (ht.out.fr (by assumption)))).mono ?_); rintro e w4 ⟨rfl, hf4⟩))
    go_ret
    exact ⟨ret_str (by rw [HR.out]), by first | exact hf2.trans hf4 | exact hf4 | exact hf2 | exact Fr.refl _⟩
  · have q0 := L_nempty k0
    rw [k1] at C1
    clear k0 k1
    go_enter Tryz.func38, Tryz.ntmps38
    go_wp2_with (first
      | (go_at_call 45; (with_reducible refine (CE.out _ (by first | exact ht | exact Lib.hid (ht.out.fr (by assumption)))).mono ?_); rintro e w4 ⟨rfl, hf4⟩)
      | (go_at_call 61; (with_reducible refine (C1.out _ ht).mono ?_); rintro e w1 ⟨rfl, rfl⟩))
    go_ret
    exact ⟨ret_str (by rw [HR.out]), by first | exact hf2.trans hf4 | exact hf4 | exact hf2 | exact Fr.refl _⟩
  · have q0 := L_nempty k0
    rw [k1] at C1
    rw [k2] at C2
    clear k0 k1 k2
    go_enter Tryz.func38, Tryz.ntmps38
    go_wp2_with (first
      | (go_at_call 45; (with_reducible refine (CE.out _ (by first | exact ht | exact Lib.hid (ht.out.fr (by assumption)))).mono ?_); rintro e w4 ⟨rfl, hf4⟩)
      | (go_at_call 61; (with_reducible refine (C1.out _ ht).mono ?_); rintro e w1 ⟨rfl, rfl⟩)
      | (go_at_call 60; (with_reducible refine (C2.out _ ht).mono ?_); rintro e w2 ⟨⟨ev, rfl, x, rfl⟩, hf2⟩; have hc2 := ((h.out.fr hf2).cells.2.2.2.2.1); rw [← hp'.out] at hc2))
    go_ret
    exact ⟨ret_str (by rw [HR.out]), by first | exact hf2.trans hf4 | exact hf4 | exact hf2 | exact Fr.refl _⟩
  · have q0 := L_nempty k0
    rw [k1] at C1
    rw [k2] at C2
    have q3 := ne_strs (mk q) p k3
    clear k0 k1 k2 k3
    go_enter Tryz.func38, Tryz.ntmps38
    go_wp2_with (first
      | (go_at_call 45; (with_reducible refine (CE.out _ (by first | exact ht | exact Lib.hid (ht.out.fr (by assumption)))).mono ?_); rintro e w4 ⟨rfl, hf4⟩)
      | (go_at_call 61; (with_reducible refine (C1.out _ ht).mono ?_); rintro e w1 ⟨rfl, rfl⟩)
      | (go_at_call 60; (with_reducible refine (C2.out _ ht).mono ?_); rintro e w2 ⟨⟨ev, rfl, rfl⟩, hf2⟩; have hc2 := ((h.out.fr hf2).cells.2.2.2.2.1); rw [← hp'.out] at hc2))
    go_ret
    exact ⟨ret_str (by rw [HR.out]), by first | exact hf2.trans hf4 | exact hf4 | exact hf2 | exact Fr.refl _⟩
theorem urlEscapedFragment_any (g : Nat) (U : UrlR) (h1 : U.fragment.size ≤ 274877906944) (h2 : U.rawFragment.size ≤ 274877906944) (w : World) (h : Hid (UrlIs w g U)) (ht : Hid (Tab w)) :
    Calls Tryz.prog 38 #[.pointer (some ⟨g, 0, none⟩)] w fun e w' => e = .returned (.string (mk (NU.escFrag (L U.fragment) (L U.rawFragment)))) ∧ Fr w w' := by
  cases hk : NU.hintOk 64 (L U.fragment) (L U.rawFragment)
  · exact urlEscapedFragment_own g U w h ht h1 h2 hk
  · exact urlEscapedFragment_hint g U w h ht h1 h2 hk
end Go.Proofs.YtibcegbacnjmfaaGreatDoor
