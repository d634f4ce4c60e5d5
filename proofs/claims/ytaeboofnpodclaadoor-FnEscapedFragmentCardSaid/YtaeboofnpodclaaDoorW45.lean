import Derived.Test.YtaeboofnpodclaaDoorW42
import Derived.Test.YtaeboofnpodclaaDoorW22
namespace Go.Proofs.YtaeboofnpodclaaDoor
set_option linter.unusedVariables false
set_option linter.unusedSimpArgs false
open Go.RowKit

theorem beq_selfF (s : ByteArray) : (s.toList == s.toList) = true := by simp
theorem esc_sizeF (m : UInt8) (s : ByteArray) : (mk (NU.esc m (L s))).size ≤ 3 * s.size := by
  have := NU.hexN_le m (L s)
  rw [mk_size, NU.esc_length, L_length]; rw [L_length] at this; omega
theorem IsFragment_any (s : ByteArray) (hs : s.size ≤ 1099511627776) (w : World) :
    Calls Tryd.prog 16 #[.string s] w fun e w' => e = .returned (.bool (NU.chars [58, 64, 47, 63] true (L s))) ∧ Fr w w' := by
  have C := Lib.hid (fun W => chars_any s ⟨#[58, 64, 47, 63]⟩ true W hs (by show (4 : Nat) ≤ 1099511627776; omega))
  go_enter Tryd.func16, Tryd.ntmps16
  go_wp2_with (go_at_call 30; (with_reducible refine (C.out _).mono ?_); rintro e w1 ⟨rfl, hf1⟩)
  go_ret
  exact ⟨rfl, hf1⟩
set_option maxRecDepth 100000 in
set_option maxHeartbeats 1000000 in
theorem EscapedFragmentOf_any (pa rp : ByteArray) (h1 : pa.size ≤ 274877906944) (h2 : rp.size ≤ 274877906944) (w : World) (ht : Hid (Tab w)) :
    Calls Tryd.prog 14 #[.agg #[.string ⟨#[]⟩, .string ⟨#[]⟩, .bool false, .string ⟨#[]⟩, .bool false, .string ⟨#[]⟩, .string ⟨#[]⟩, .string ⟨#[]⟩, .string ⟨#[]⟩, .bool false, .string ⟨#[]⟩, .string pa, .string rp, .bool false, .string ⟨#[]⟩, .string ⟨#[]⟩]] w fun e w' => e = .returned (.string (mk (NU.escFrag (L pa) (L rp)))) ∧ Fr w w' := by
  have C := Lib.hid (made_call ⟨#[]⟩ ⟨#[]⟩ ⟨#[]⟩ ⟨#[]⟩ ⟨#[]⟩ ⟨#[]⟩ ⟨#[]⟩ ⟨#[]⟩ pa rp ⟨#[]⟩ ⟨#[]⟩ false false false false)
  have D := Lib.hid (fun (g : Nat) => urlEscapedFragment_any g (madeOf ⟨⟨#[]⟩, ⟨#[]⟩, false, ⟨#[]⟩, false, ⟨#[]⟩, ⟨#[]⟩, ⟨#[]⟩, ⟨#[]⟩, false, ⟨#[]⟩, pa, rp, false, ⟨#[]⟩, ⟨#[]⟩⟩) h1 h2)
  replace h1 := Lib.hid h1
  replace h2 := Lib.hid h2
  go_enter Tryd.func14, Tryd.ntmps14
  go_wp2_with fail
  refine C.out _ _ ?_
  intro g w1 hf1 hu1
  have hF : Fr w w1 := ((Fr.refl _).alloc _).trans hf1
  have ht1 := Lib.hid (ht.out.fr hF)
  replace hF := Lib.hid hF
  clear hf1
  go_wp2_with fail
  refine (D.out g _ hu1 ht1).mono ?_
  rintro e w2 ⟨rfl, hf2⟩
  go_wp2
  go_ret
  exact ⟨rfl, hF.out.trans hf2⟩

set_option maxRecDepth 100000 in
set_option maxHeartbeats 4000000 in
theorem FnEscapedFragment_any (pa hi : ByteArray) (w : World) (ht : Tab w) :
    Calls Tryd.prog 4 #[.string pa, .string hi] w fun e w' => e = .returned (.bool true) ∧ Fr w w' := by
  by_cases hb : pa.size ≤ 2147483647
  · by_cases hb2 : hi.size ≤ 2147483647
    · obtain ⟨t, hT⟩ : ∃ t, t = mk (NU.escFrag (L pa) (L hi)) := ⟨_, rfl⟩
      have htz : t.size ≤ 6442450941 := by
        rw [hT, mk_size, NU.escFrag]
        split
        · rw [L_length]; omega
        · rw [← mk_size]; have := esc_sizeF 64 pa; omega
      have C1 := Lib.hid (EscapedFragmentOf_any pa hi (by omega) (by omega))
      rw [← hT] at C1
      have hd : NU.dec false (L t) = some (L pa) := by rw [hT, L_mk]; exact NU.escFrag_dec _ _
      have C2 : Hid (∀ W, Calls Tryd.prog 15 #[.string t] W fun e w' => e = .returned (.tuple #[.string pa, .bool true]) ∧ Fr W w') := by
        show ∀ W, _
        intro W
        have := Decode_any t W (by omega)
        rw [hd] at this
        exact this.mono (fun e w' h => ⟨h.1.trans (ret_sb (mk_L pa) rfl), h.2⟩)
      have C3 := Lib.hid (fun W => Decode_any hi W (by omega))
      have C4 := Lib.hid (IsFragment_any hi (by omega))
      have HX : Hid (¬ L hi = [] → NU.dec false (L hi) = some (L pa) → NU.chars [58, 64, 47, 63] true (L hi) = true → t = hi) := by
        show _ → _ → _ → _
        intro a1 a2 a3
        rw [hT, NU.escFrag_hint _ _ a1 a2 a3, mk_L]
      have qp := beq_selfF pa
      replace ht := Lib.hid ht
      clear hT hd htz
      have hcase : L hi = [] ∨ (¬ L hi = [] ∧ NU.dec false (L hi) = none) ∨ (¬ L hi = [] ∧ ∃ q, NU.dec false (L hi) = some q ∧ ¬ q = L pa) ∨ (¬ L hi = [] ∧ NU.dec false (L hi) = some (L pa)) := by
        by_cases k0 : L hi = []
        · exact .inl k0
        · right
          cases k2 : NU.dec false (L hi) with
          | none => exact .inl ⟨k0, rfl⟩
          | some q =>
            right
            by_cases k3 : q = L pa
            · exact .inr ⟨k0, by rw [k3]⟩
            · exact .inl ⟨k0, q, rfl, k3⟩
      rcases hcase with k0 | ⟨k0, k2⟩ | ⟨k0, q, k2, k3⟩ | ⟨k0, k2⟩
      · have q0 := L_empty k0
        obtain ⟨X, hX⟩ : ∃ X, X = NU.dec false (L hi) := ⟨_, rfl⟩
        rw [← hX] at C3
        clear k0 hX
        go_enter Tryd.func4, Tryd.ntmps4
        go_wp2_with (first
          | (go_at_call 14; (with_reducible refine (C1.out _ ht).mono ?_); rintro e w1 ⟨rfl, hf1⟩)
          | (go_at_call 15; (with_reducible refine (C2.out _).mono ?_); rintro e w2 ⟨rfl, hf2⟩)
          | (go_at_call 15; (with_reducible refine (C3.out _).mono ?_); rintro e w3 ⟨rfl, hf3⟩))
        go_ret
        exact ⟨rfl, (hf1.trans hf2).trans hf3⟩
      · have q0 := L_nempty k0
        rw [k2] at C3
        clear k0 k2
        go_enter Tryd.func4, Tryd.ntmps4
        go_wp2_with (first
          | (go_at_call 14; (with_reducible refine (C1.out _ ht).mono ?_); rintro e w1 ⟨rfl, hf1⟩)
          | (go_at_call 15; (with_reducible refine (C2.out _).mono ?_); rintro e w2 ⟨rfl, hf2⟩)
          | (go_at_call 15; (with_reducible refine (C3.out _).mono ?_); rintro e w3 ⟨rfl, hf3⟩))
        go_ret
        exact ⟨rfl, (hf1.trans hf2).trans hf3⟩
      · have q0 := L_nempty k0
        rw [k2] at C3
        have q3 : ¬ (mk q).toList = pa.toList := by
          rw [Lib.toList_data, Lib.toList_data]; exact k3
        clear k0 k2 k3
        go_enter Tryd.func4, Tryd.ntmps4
        go_wp2_with (first
          | (go_at_call 14; (with_reducible refine (C1.out _ ht).mono ?_); rintro e w1 ⟨rfl, hf1⟩)
          | (go_at_call 15; (with_reducible refine (C2.out _).mono ?_); rintro e w2 ⟨rfl, hf2⟩)
          | (go_at_call 15; (with_reducible refine (C3.out _).mono ?_); rintro e w3 ⟨rfl, hf3⟩))
        go_ret
        exact ⟨rfl, (hf1.trans hf2).trans hf3⟩
      · have q0 := L_nempty k0
        rw [k2] at C3
        have hmk : mk (L pa) = pa := mk_L pa
        cases hc : NU.chars [58, 64, 47, 63] true (L hi)
        · rw [hc] at C4
          clear k0 k2 hc
          go_enter Tryd.func4, Tryd.ntmps4
          go_wp2_with (first
            | (go_at_call 14; (with_reducible refine (C1.out _ ht).mono ?_); rintro e w1 ⟨rfl, hf1⟩)
            | (go_at_call 15; (with_reducible refine (C2.out _).mono ?_); rintro e w2 ⟨rfl, hf2⟩)
            | (go_at_call 15; (with_reducible refine (C3.out _).mono ?_); rintro e w3 ⟨rfl, hf3⟩)
            | (go_at_call 16; (with_reducible refine (C4.out _).mono ?_); rintro e w4 ⟨rfl, hf4⟩))
          go_ret
          exact ⟨rfl, ((hf1.trans hf2).trans hf3).trans hf4⟩
        · have hE := HX.out k0 k2 hc
          rw [hc] at C4
          clear k0 k2 hc
          subst hE
          have qt := beq_selfF t
          go_enter Tryd.func4, Tryd.ntmps4
          go_wp2_with (first
            | (go_at_call 14; (with_reducible refine (C1.out _ ht).mono ?_); rintro e w1 ⟨rfl, hf1⟩)
            | (go_at_call 15; (with_reducible refine (C2.out _).mono ?_); rintro e w2 ⟨rfl, hf2⟩)
            | (go_at_call 16; (with_reducible refine (C4.out _).mono ?_); rintro e w4 ⟨rfl, hf4⟩))
          go_ret
          exact ⟨rfl, by first | exact ((hf1.trans (by assumption)).trans (by assumption)).trans hf4 | (repeat (first | exact hf1 | refine Fr.trans ?_ (by assumption)))⟩
    · have hb2 : 2147483647 < (hi.size : Int) := by omega
      go_enter Tryd.func4, Tryd.ntmps4
      go_wp2
      go_ret
      exact ⟨rfl, Fr.refl _⟩
  · have hb : 2147483647 < (pa.size : Int) := by omega
    go_enter Tryd.func4, Tryd.ntmps4
    go_wp2
    go_ret
    exact ⟨rfl, Fr.refl _⟩
end Go.Proofs.YtaeboofnpodclaaDoor
