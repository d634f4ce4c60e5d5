import Derived.Test.YtcbmfimafiolaaaW27
import Derived.Test.YtcbmfimafiolaaaW29
namespace Go.Proofs.Ytcbmfimafiolaaa
set_option linter.unusedVariables false
set_option linter.unusedSimpArgs false
open Go.RowKit

set_option maxHeartbeats 1000000 in
theorem specResolvePath_any (base ref : ByteArray) (w : World) (hb : base.size ≤ 274877906944) (hr : ref.size ≤ 274877906944) :
    Calls Try.prog 23 #[.string base, .string ref] w fun e w' => e = .returned (.string (mk (NU.specRP (L base) (L ref)))) ∧ Fr w w' := by
  cases hc : NU.begins (L ref) [47]
  case true =>
    have CB := Lib.hid (bg_any ref [47] true (by omega) (by simp) hc)
    have CR := Lib.hid (fun W => RemoveDots_any ref W (by omega))
    have HF : Hid (NU.specRP (L base) (L ref) = NU.removeDots (L ref)) := by show _ = _; rw [NU.specRP, if_pos hc]
    clear hc
    go_enter Try.func23, Try.ntmps23
    go_wp2_with (first
      | (go_at_call 28; (with_reducible refine (CB.out _).mono ?_); rintro e w1 ⟨rfl, rfl⟩)
      | (go_at_call 41; (with_reducible refine (CR.out _).mono ?_); rintro e w1 ⟨rfl, hf1⟩))
    go_ret
    exact ⟨ret_str (by rw [HF.out]), hf1⟩
  case false =>
    have CB := Lib.hid (bg_any ref [47] false (by omega) (by simp) hc)
    obtain ⟨i, hi⟩ : ∃ i, i = NU.lastIdx 47 (L base) := ⟨_, rfl⟩
    have HF : Hid (NU.specRP (L base) (L ref) = NU.removeDots ((L base).take (i + 1).toNat ++ L ref)) := by show _ = _; rw [NU.specRP, hc, ← hi]; rfl
    have HI := Lib.hid hi
    clear hc hi
    go_enter Try.func23, Try.ntmps23
    go_wp2_with (go_at_call 28; (with_reducible refine (CB.out _).mono ?_); rintro e w1 ⟨rfl, rfl⟩)
    go_loop [5] (fun i => ∃ k : Nat, k ≤ base.size ∧ i = .int .i64 (k : Int) ∧ Hid (NU.lastIdx 47 (L base) = NU.lastIdx 47 ((L base).take k))) (fun i => (intOf i).toNat)
    case atStart => exact ⟨base.size, by omega, rfl, by show _ = _; rw [List.take_of_length_le (by rw [L_length]; omega)]⟩
    case round =>
      obtain ⟨k, hk, rfl, HS⟩ := hrel
      by_cases h0 : k = 0
      · subst h0
        have HK : Hid (NU.specRP (L base) (L ref) = NU.removeDots (L ref)) := by
          show _ = _; rw [HF.out, HI.out, HS.out]; rfl
        have CR := Lib.hid (fun W => RemoveDots_any ref W (by omega))
        rw [← HK.out] at CR
        clear HS HK
        go_wp2_with (go_at_call 41; (with_reducible refine (CR.out _).mono ?_); rintro e w1 ⟨rfl, hf1⟩)
        go_ret
        exact ⟨rfl, hf1⟩
      · obtain ⟨m, rfl⟩ : ∃ m, k = m + 1 := ⟨k - 1, by omega⟩
        have hm : m < base.size := by omega
        have HS2 : Hid (NU.lastIdx 47 ((L base).take (m + 1)) = if base[m] == 47 then (m : Int) else NU.lastIdx 47 ((L base).take m)) := by
          show _ = _
          have e1 : (L base).take (m + 1) = (L base).take m ++ [base[m]] := by
            rw [List.take_succ_eq_append_getElem (by rw [L_length]; exact hm)]; rfl
          have e2 : ((L base).take m).length = m := by rw [List.length_take, L_length]; omega
          rw [e1, NU.lastIdx_snoc, e2]
        have e3 : (((m + 1 : Nat) : Int) - 1) = (m : Int) := by omega
        have e4 : (0 : Int) < ((m + 1 : Nat) : Int) := by omega
        clear h0
        by_cases hc : ((base[m].toNat : Int) != 47) = true
        · have HC : Hid ((base[m] == 47) = false) := by
            show _ = _; rw [← u8_eq]; simpa using hc
          go_wp2
          go_round
          case rel => exact ⟨m, by omega, by first | rfl | go_num, by show _ = _; rw [HS.out, HS2.out, HC.out]; rfl⟩
          case measure => first | (simp [intOf]; done) | (simp [intOf]; omega)
        · have hc : ((base[m].toNat : Int) != 47) = false := by simpa using hc
          have HC : Hid ((base[m] == 47) = true) := by
            show _ = _; rw [← u8_eq]; simpa using hc
          have HK : Hid (NU.specRP (L base) (L ref) = NU.removeDots (L (base.extract 0 (m + 1) ++ ref))) := by
            show _ = _; rw [HF.out, HI.out, HS.out, HS2.out, HC.out, L_app, ext_to, L_mk]; rfl
          have CR := Lib.hid (fun W => RemoveDots_any (base.extract 0 (m + 1) ++ ref) W (by rw [ByteArray.size_append, ByteArray.size_extract]; omega))
          rw [← HK.out] at CR
          clear HS HS2 HK
          go_wp2_with (go_at_call 41; (with_reducible refine (CR.out _).mono ?_); rintro e w1 ⟨rfl, hf1⟩)
          go_ret
          exact ⟨rfl, hf1⟩

theorem implResolvePath_any (base ref : ByteArray) (w : World) (hb : base.size ≤ 274877906944) (hr : ref.size ≤ 274877906944) :
    Calls Try.prog 24 #[.string base, .string ref] w fun e w' => e = .returned (.string (mk (NU.resolvePath (L base) (L ref)))) ∧ Fr w w' := by
  have C := Lib.hid (fun W => resolvePath_any base ref W hb hr)
  have C2 : Hid (∀ W, Calls Try.prog 42 #[.string base, .string ref] W fun e w' => e = .returned (.string (mk (NU.resolvePath (L base) (L ref)))) ∧ Fr W w') := by
    show ∀ W, _
    intro W
    go_enter Try.func42, Try.ntmps42
    go_wp2_with (go_at_call 53; (with_reducible refine (C.out _).mono ?_); rintro e w1 ⟨rfl, hf1⟩)
    go_ret
    exact ⟨rfl, hf1⟩
  go_enter Try.func24, Try.ntmps24
  go_wp2_with (go_at_call 42; (with_reducible refine (C2.out _).mono ?_); rintro e w1 ⟨rfl, hf1⟩)
  go_ret
  exact ⟨rfl, hf1⟩

theorem slash_app (base : ByteArray) : L ((⟨#[47]⟩ : ByteArray) ++ base) = 47 :: L base := by rw [L_app]; rfl
theorem slash_size (base : ByteArray) : ((⟨#[47]⟩ : ByteArray) ++ base).size = 1 + base.size := by rw [ByteArray.size_append]; rfl

set_option maxHeartbeats 1000000 in
theorem FnResolvePath_any (base ref : ByteArray) (w : World) :
    Calls Try.prog 8 #[.string base, .string ref] w fun e w' => e = .returned (.bool true) ∧ Fr w w' := by
  by_cases hb : base.size ≤ 2147483647
  · by_cases hr : ref.size ≤ 2147483647
    · obtain ⟨b1, hb1⟩ : ∃ b1, b1 = (⟨#[47]⟩ : ByteArray) ++ base := ⟨_, rfl⟩
      have hz1 : b1.size ≤ 274877906944 := by rw [hb1, slash_size]; omega
      have hL1 : L b1 = 47 :: L base := by rw [hb1, slash_app]
      have hb1' := hb1.symm
      by_cases h0 : L ref = []
      · have q0 := L_empty h0
        have C1 := Lib.hid (fun W => specResolvePath_any b1 ref W hz1 (by omega))
        clear hb1 h0 hL1
        go_enter Try.func8, Try.ntmps8
        go_wp2_with (go_at_call 23; (with_reducible refine (C1.out _).mono ?_); rintro e w1 ⟨rfl, hf1⟩)
        go_ret
        exact ⟨rfl, hf1⟩
      · have q0 := L_nempty h0
        obtain ⟨want, hw⟩ : ∃ want, want = mk (NU.specRP (L b1) (L ref)) := ⟨_, rfl⟩
        have C1 := Lib.hid (fun W => specResolvePath_any b1 ref W hz1 (by omega))
        have C2 := Lib.hid (fun W => implResolvePath_any b1 ref W hz1 (by omega))
        rw [← hw] at C1
        have hwl : L want = NU.removeDots (NU.rpFull (47 :: L base) (L ref)) := by rw [hw, L_mk, hL1, NU.specRP_eq _ _ h0]
        have HLaw : Hid (¬ NU.two (L want) → mk (NU.resolvePath (L b1) (L ref)) = want) := by
          show _ → _
          intro h2
          rw [hwl] at h2
          rw [hL1, NU.resolve_law _ _ h0 h2, ← hwl, mk_L]
        clear hb1 hw hwl h0 hL1
        by_cases hwz : 1 < want.size
        · obtain ⟨x, hx⟩ : ∃ x, x = want[1] := ⟨_, rfl⟩
          have hx' := hx.symm
          have HT : Hid ((L want).drop 1 = x :: (L want).drop 2) := by show _ = _; rw [hx]; exact drop_cons want 1 hwz
          have hx47 := u8_47 x
          cases hq : (x == 47)
          case true =>
            have hq' : ((x.toNat : Int) == 47) = true := by rw [hx47, hq]
            clear hx hx47 hq
            go_enter Try.func8, Try.ntmps8
            go_wp2_with (go_at_call 23; (with_reducible refine (C1.out _).mono ?_); rintro e w1 ⟨rfl, hf1⟩)
            go_ret
            exact ⟨rfl, hf1⟩
          case false =>
            have hq' : ((x.toNat : Int) == 47) = false := by rw [hx47, hq]
            have hE := HLaw.out (by unfold NU.two; rw [HT.out]; simpa using hq)
            rw [hE] at C2
            clear hx hx47 hq hE
            go_enter Try.func8, Try.ntmps8
            go_wp2_with (first
              | (go_at_call 23; (with_reducible refine (C1.out _).mono ?_); rintro e w1 ⟨rfl, hf1⟩)
              | (go_at_call 24; (with_reducible refine (C2.out _).mono ?_); rintro e w2 ⟨rfl, hf2⟩))
            go_ret
            exact ⟨rfl, hf1.trans hf2⟩
        · have hE := HLaw.out (by
            unfold NU.two
            rw [List.drop_eq_nil_of_le (by rw [L_length]; omega)]; simp)
          rw [hE] at C2
          have hwz2 : want.size ≤ 1 := by omega
          clear hE hwz
          go_enter Try.func8, Try.ntmps8
          go_wp2_with (first
              | (go_at_call 23; (with_reducible refine (C1.out _).mono ?_); rintro e w1 ⟨rfl, hf1⟩)
              | (go_at_call 24; (with_reducible refine (C2.out _).mono ?_); rintro e w2 ⟨rfl, hf2⟩))
          go_ret
          exact ⟨rfl, hf1.trans hf2⟩
    · have hr : 2147483647 < (ref.size : Int) := by omega
      go_enter Try.func8, Try.ntmps8
      go_wp2
      go_ret
      exact ⟨rfl, Fr.refl _⟩
  · have hb : 2147483647 < (base.size : Int) := by omega
    go_enter Try.func8, Try.ntmps8
    go_wp2
    go_ret
    exact ⟨rfl, Fr.refl _⟩
end Go.Proofs.Ytcbmfimafiolaaa
