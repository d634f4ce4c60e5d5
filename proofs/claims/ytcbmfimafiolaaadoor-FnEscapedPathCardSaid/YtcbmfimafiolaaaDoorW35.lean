import Derived.Test.YtcbmfimafiolaaaDoorW32
import Derived.Test.YtcbmfimafiolaaaDoorW34
namespace Go.Proofs.YtcbmfimafiolaaaDoor
set_option linter.unusedVariables false
set_option linter.unusedSimpArgs false
open Go.RowKit

theorem urlEscapedPath_any (g : Nat) (U : UrlR) (h1 : U.path.size ≤ 274877906944) (h2 : U.rawPath.size ≤ 274877906944) (w : World) (h : Hid (UrlIs w g U)) (ht : Hid (Tab w)) :
    Calls Tryd.prog 30 #[.pointer (some ⟨g, 0, none⟩)] w fun e w' => e = .returned (.string (mk (NU.escPath (L U.path) (L U.rawPath)))) ∧ Fr w w' := by
  cases hk : NU.hintOk 1 (L U.path) (L U.rawPath)
  · exact urlEscapedPath_own g U w h ht h1 h2 hk
  · exact urlEscapedPath_hint g U w h ht h1 h2 hk
set_option maxRecDepth 100000 in
set_option maxHeartbeats 1000000 in
theorem EscapedPathOf_any (pa rp : ByteArray) (h1 : pa.size ≤ 274877906944) (h2 : rp.size ≤ 274877906944) (w : World) (ht : Hid (Tab w)) :
    Calls Tryd.prog 18 #[.agg #[.string ⟨#[]⟩, .string ⟨#[]⟩, .bool false, .string ⟨#[]⟩, .bool false, .string ⟨#[]⟩, .string ⟨#[]⟩, .string pa, .string rp, .bool false, .string ⟨#[]⟩, .string ⟨#[]⟩, .string ⟨#[]⟩, .bool false, .string ⟨#[]⟩, .string ⟨#[]⟩]] w fun e w' => e = .returned (.string (mk (NU.escPath (L pa) (L rp)))) ∧ Fr w w' := by
  have C := Lib.hid (made_call ⟨#[]⟩ ⟨#[]⟩ ⟨#[]⟩ ⟨#[]⟩ ⟨#[]⟩ pa rp ⟨#[]⟩ ⟨#[]⟩ ⟨#[]⟩ ⟨#[]⟩ ⟨#[]⟩ false false false false)
  have D := Lib.hid (fun (g : Nat) => urlEscapedPath_any g (madeOf ⟨⟨#[]⟩, ⟨#[]⟩, false, ⟨#[]⟩, false, ⟨#[]⟩, ⟨#[]⟩, pa, rp, false, ⟨#[]⟩, ⟨#[]⟩, ⟨#[]⟩, false, ⟨#[]⟩, ⟨#[]⟩⟩) h1 h2)
  replace h1 := Lib.hid h1
  replace h2 := Lib.hid h2
  go_enter Tryd.func18, Tryd.ntmps18
  go_wp2_with fail
  refine C.out _ _ ?_
  intro g w1 hf1 hu1
  have hF : Fr w w1 := ((Fr.refl _).alloc _).trans hf1
  have ht1 := Lib.hid (ht.out.fr hF)
  replace hF := Lib.hid hF
  clear hf1
  go_wp2_with fail
  refine (D.out g _ hu1 ht1).mono ?_
  rintro e w2 ⟨rfl, hf2⟩
  go_wp2
  go_ret
  exact ⟨rfl, hF.out.trans hf2⟩

set_option maxRecDepth 100000 in
set_option maxHeartbeats 4000000 in
theorem FnEscapedPath_any (pa hi : ByteArray) (w : World) (ht : Tab w) :
    Calls Tryd.prog 8 #[.string pa, .string hi] w fun e w' => e = .returned (.bool true) ∧ Fr w w' := by
  by_cases hb : pa.size ≤ 2147483647
  · by_cases hb2 : hi.size ≤ 2147483647
    · obtain ⟨t, hT⟩ : ∃ t, t = mk (NU.escPath (L pa) (L hi)) := ⟨_, rfl⟩
      have htz : t.size ≤ 6442450941 := by
        rw [hT, mk_size, NU.escPath]
        split
        · rw [L_length]; omega
        · split
          · simp
          · rw [← mk_size]; have := esc_size 1 pa; omega
      have C1 := Lib.hid (EscapedPathOf_any pa hi (by omega) (by omega))
      rw [← hT] at C1
      have hd : NU.dec false (L t) = some (L pa) := by rw [hT, L_mk]; exact NU.escPath_dec _ _
      have C2 : Hid (∀ W, Calls Tryd.prog 11 #[.string t] W fun e w' => e = .returned (.tuple #[.string pa, .bool true]) ∧ Fr W w') := by
        show ∀ W, _
        intro W
        have := Decode_any t W (by omega)
        rw [hd] at this
        exact this.mono (fun e w' h => ⟨h.1.trans (ret_sb (mk_L pa) rfl), h.2⟩)
      have C3 := Lib.hid (fun W => Decode_any hi W (by omega))
      have C4 := Lib.hid (IsPath_any hi (by omega))
      have HX : Hid (¬ L hi = [] → NU.dec false (L hi) = some (L pa) → NU.chars [58, 64, 47] true (L hi) = true → t = hi) := by
        show _ → _ → _ → _
        intro a1 a2 a3
        rw [hT, NU.escPath_hint _ _ a1 a2 a3, mk_L]
      have qp := beq_self pa
      replace ht := Lib.hid ht
      clear hT hd htz
      have hcase : L hi = [] ∨ (¬ L hi = [] ∧ NU.dec false (L hi) = none) ∨ (¬ L hi = [] ∧ ∃ q, NU.dec false (L hi) = some q ∧ ¬ q = L pa) ∨ (¬ L hi = [] ∧ NU.dec false (L hi) = some (L pa)) := by
        by_cases k0 : L hi = []
        · exact .inl k0
        · right
          cases k2 : NU.dec false (L hi) with
          | none => exact .inl ⟨k0, rfl⟩
          | some q =>
            right
            by_cases k3 : q = L pa
            · exact .inr ⟨k0, by rw [k3]⟩
            · exact .inl ⟨k0, q, rfl, k3⟩
      rcases hcase with k0 | ⟨k0, k2⟩ | ⟨k0, q, k2, k3⟩ | ⟨k0, k2⟩
      · have q0 := L_empty k0
        obtain ⟨X, hX⟩ : ∃ X, X = NU.dec false (L hi) := ⟨_, rfl⟩
        rw [← hX] at C3
        clear k0 hX
        go_enter Tryd.func8, Tryd.ntmps8
        go_wp2_with (first
          | (go_at_call 18; (with_reducible refine (C1.out _ ht).mono ?_); rintro e w1 ⟨rfl, hf1⟩)
          | (go_at_call 11; (with_reducible refine (C2.out _).mono ?_); rintro e w2 ⟨rfl, hf2⟩)
          | (go_at_call 11; (with_reducible refine (C3.out _).mono ?_); rintro e w3 ⟨rfl, hf3⟩))
        go_ret
        exact ⟨rfl, (hf1.trans hf2).trans hf3⟩
      · have q0 := L_nempty k0
        rw [k2] at C3
        clear k0 k2
        go_enter Tryd.func8, Tryd.ntmps8
        go_wp2_with (first
          | (go_at_call 18; (with_reducible refine (C1.out _ ht).mono ?_); rintro e w1 ⟨rfl, hf1⟩)
          | (go_at_call 11; (with_reducible refine (C2.out _).mono ?_); rintro e w2 ⟨rfl, hf2⟩)
          | (go_at_call 11; (with_reducible refine (C3.out _).mono ?_); rintro e w3 ⟨rfl, hf3⟩))
        go_ret
        exact ⟨rfl, (hf1.trans hf2).trans hf3⟩
      · have q0 := L_nempty k0
        rw [k2] at C3
        have q3 : ¬ (mk q).toList = pa.toList := by
          rw [Lib.toList_data, Lib.toList_data]; exact k3
        clear k0 k2 k3
        go_enter Tryd.func8, Tryd.ntmps8
        go_wp2_with (first
          | (go_at_call 18; (with_reducible refine (C1.out _ ht).mono ?_); rintro e w1 ⟨rfl, hf1⟩)
          | (go_at_call 11; (with_reducible refine (C2.out _).mono ?_); rintro e w2 ⟨rfl, hf2⟩)
          | (go_at_call 11; (with_reducible refine (C3.out _).mono ?_); rintro e w3 ⟨rfl, hf3⟩))
        go_ret
        exact ⟨rfl, (hf1.trans hf2).trans hf3⟩
      · have q0 := L_nempty k0
        rw [k2] at C3
        have hmk : mk (L pa) = pa := mk_L pa
        cases hc : NU.chars [58, 64, 47] true (L hi)
        · rw [hc] at C4
          clear k0 k2 hc
          go_enter Tryd.func8, Tryd.ntmps8
          go_wp2_with (first
            | (go_at_call 18; (with_reducible refine (C1.out _ ht).mono ?_); rintro e w1 ⟨rfl, hf1⟩)
            | (go_at_call 11; (with_reducible refine (C2.out _).mono ?_); rintro e w2 ⟨rfl, hf2⟩)
            | (go_at_call 11; (with_reducible refine (C3.out _).mono ?_); rintro e w3 ⟨rfl, hf3⟩)
            | (go_at_call 19; (with_reducible refine (C4.out _).mono ?_); rintro e w4 ⟨rfl, hf4⟩))
          go_ret
          exact ⟨rfl, ((hf1.trans hf2).trans hf3).trans hf4⟩
        · have hE := HX.out k0 k2 hc
          rw [hc] at C4
          clear k0 k2 hc
          subst hE
          have qt := beq_self t
          go_enter Tryd.func8, Tryd.ntmps8
          go_wp2_with (first
            | (go_at_call 18; (with_reducible refine (C1.out _ ht).mono ?_); rintro e w1 ⟨rfl, hf1⟩)
            | (go_at_call 11; (with_reducible refine (C2.out _).mono ?_); rintro e w2 ⟨rfl, hf2⟩)
            | (go_at_call 19; (with_reducible refine (C4.out _).mono ?_); rintro e w4 ⟨rfl, hf4⟩))
          go_ret
          exact ⟨rfl, by first | exact ((hf1.trans (by assumption)).trans (by assumption)).trans hf4 | (repeat (first | exact hf1 | refine Fr.trans ?_ (by assumption)))⟩
    · have hb2 : 2147483647 < (hi.size : Int) := by omega
      go_enter Tryd.func8, Tryd.ntmps8
      go_wp2
      go_ret
      exact ⟨rfl, Fr.refl _⟩
  · have hb : 2147483647 < (pa.size : Int) := by omega
    go_enter Tryd.func8, Tryd.ntmps8
    go_wp2
    go_ret
    exact ⟨rfl, Fr.refl _⟩
end Go.Proofs.YtcbmfimafiolaaaDoor
