import Derived.Test.YtibcegbacnjmfaaDoorW48
import Derived.Test.YtibcegbacnjmfaaDoorW9
import Derived.Test.YtibcegbacnjmfaaDoorW21
namespace Go.Proofs.YtibcegbacnjmfaaDoor
set_option linter.unusedVariables false
set_option linter.unusedSimpArgs false
open Go.RowKit

theorem u8_of_wf {c : Int} (h : (Lit.int .u8 c).wf = true) : ∃ d : UInt8, c = (d.toNat : Int) := by
  have h' : 0 ≤ c ∧ c ≤ 255 := by simpa [Lit.wf, IntKind.wrap, IntKind.min, IntKind.max, IntKind.signed, IntKind.bits] using h
  exact ⟨UInt8.ofNat c.toNat, by rw [UInt8.toNat_ofNat']; omega⟩
theorem ref_field7 (h0 h2 h5 h7 : Bool) (s1 s3 s4 s6 s8 : ByteArray) (W : World) :
    (Instr.field 32 (.agg #[.bool h0, .string s1, .bool h2, .string s3, .string s4, .bool h5, .string s6, .bool h7, .string s8]) 7).run Tryd.prog W = .ok (.bool h7) W := by kernel_rfl
theorem concat3 (a b : ByteArray) (c : UInt8) : L (a ++ ⟨#[c]⟩ ++ b) = L a ++ c :: L b := by simp [L]
set_option maxRecDepth 100000 in
set_option maxHeartbeats 4000000 in
theorem FnControl_any (a b : ByteArray) (c : Int) (w : World) (ht : Tab w) (hw : (Lit.int .u8 c).wf = true) :
    Calls Tryd.prog 4 #[.string a, .string b, .int .u8 c] w fun e w' => e = .returned (.bool true) ∧ Fr w w' := by
  obtain ⟨c, rfl⟩ := u8_of_wf hw
  clear hw
  replace ht := Lib.hid ht
  have CP := Lib.hid parses_any
  have hfd := ref_field7
  by_cases hb : a.size ≤ 2147483647
  · by_cases hb2 : b.size ≤ 2147483647
    · have CS := Lib.hid (fun W => Split_any a W (by omega))
      cases hf : NU.spF (L a)
      · dsimp only [refV, refA] at CS
        rw [hf] at CS
        obtain ⟨d, hd⟩ : ∃ d, d = c &&& 63 := ⟨_, rfl⟩
        have e1 : bits .and .u8 (c.toNat : Int) 63 = (d.toNat : Int) := by rw [hd]; exact u8and c 63
        have e2 : (c.toNat : Int) % 64 = (d.toNat : Int) := by
          rw [hd]
          have := NU.all_u8 (fun c => decide ((c.toNat : Int) % 64 = ((c &&& 63).toNat : Int))) (by decide +kernel) c
          exact of_decide_eq_true this
        have hm := NU.ctl_mask c
        rw [← hd] at hm
        obtain ⟨f, hff⟩ : ∃ f, f = if 31 < d.toNat then (127 : UInt8) else d := ⟨_, rfl⟩
        have hm' : NU.isCtl f = true := by rw [hff]; exact hm
        obtain ⟨s, hs⟩ : ∃ s, s = a ++ ⟨#[f]⟩ ++ b := ⟨_, rfl⟩
        have hsl : L s = L a ++ f :: L b := by rw [hs, concat3]
        have hsz : s.size ≤ 137438953472 := by
          rw [← L_length, hsl, List.length_append, List.length_cons, L_length, L_length]; omega
        have hk := NU.parse_control (L a) (L b) f hf hm'
        rw [← hsl] at hk
        have CI := Lib.hid (implParse_no s hk.2 (fun W hW => urlParse_ctl s hsz hk.1 W hW))
        have kc := conv1 f
        dsimp only [iurlA, zeroU] at CI
        rw [hs] at CI
        clear hs hsl hsz hk hm hm' hf hd
        by_cases h31 : 31 < d.toNat
        · rw [if_pos h31] at hff
          subst hff
          have h31 : 31 < (d.toNat : Int) := by omega
          rw [show (((127 : UInt8).toNat : Nat) : Int) = 127 from rfl] at kc
          go_enter Tryd.func4, Tryd.ntmps4
          go_wp2_with (first
            | (go_at_call 11; (with_reducible refine (CS.out _).mono ?_); rintro e w1 ⟨rfl, hf1⟩)
            | (go_at_call 9; (with_reducible refine (CI.out _ (Lib.hid (ht.out.fr (hf1.alloc _)))).mono ?_); rintro e w2 ⟨rfl, hf2⟩; have hF2 := (hf1.alloc _).trans hf2)
            | (go_at_call 10; (with_reducible refine (CP.out _ (Lib.hid (ht.out.fr (hF2.alloc _)))).mono ?_); rintro e w3 ⟨rfl, hf3⟩))
          go_ret
          exact ⟨rfl, (hF2.alloc _).trans hf3⟩
        · rw [if_neg h31] at hff
          subst hff
          have h31 : ¬ 31 < (f.toNat : Int) := by omega
          go_enter Tryd.func4, Tryd.ntmps4
          go_wp2_with (first
            | (go_at_call 11; (with_reducible refine (CS.out _).mono ?_); rintro e w1 ⟨rfl, hf1⟩)
            | (go_at_call 9; (with_reducible refine (CI.out _ (Lib.hid (ht.out.fr (hf1.alloc _)))).mono ?_); rintro e w2 ⟨rfl, hf2⟩; have hF2 := (hf1.alloc _).trans hf2)
            | (go_at_call 10; (with_reducible refine (CP.out _ (Lib.hid (ht.out.fr (hF2.alloc _)))).mono ?_); rintro e w3 ⟨rfl, hf3⟩))
          go_ret
          exact ⟨rfl, (hF2.alloc _).trans hf3⟩
      · dsimp only [refV, refA] at CS
        rw [hf] at CS
        clear hf
        go_enter Tryd.func4, Tryd.ntmps4
        go_wp2_with (first
          | (go_at_call 11; (with_reducible refine (CS.out _).mono ?_); rintro e w1 ⟨rfl, hf1⟩)
          | (go_at_call 10; (with_reducible refine (CP.out _ (Lib.hid (ht.out.fr hf1))).mono ?_); rintro e w3 ⟨rfl, hf3⟩))
        go_ret
        exact ⟨rfl, hf1.trans hf3⟩
    · have hb2 : 2147483647 < (b.size : Int) := by omega
      go_enter Tryd.func4, Tryd.ntmps4
      go_wp2
      go_ret
      exact ⟨rfl, Fr.refl _⟩
  · have hb : 2147483647 < (a.size : Int) := by omega
    go_enter Tryd.func4, Tryd.ntmps4
    go_wp2
    go_ret
    exact ⟨rfl, Fr.refl _⟩
end Go.Proofs.YtibcegbacnjmfaaDoor
