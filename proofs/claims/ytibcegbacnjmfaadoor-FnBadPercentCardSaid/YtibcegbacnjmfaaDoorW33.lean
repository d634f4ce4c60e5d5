import Derived.Test.YtibcegbacnjmfaaDoorW26
import Derived.Test.YtibcegbacnjmfaaDoorW25
import Derived.Test.YtibcegbacnjmfaaDoorP
namespace Go.Proofs.YtibcegbacnjmfaaDoor
set_option linter.unusedVariables false
set_option linter.unusedSimpArgs false
open Go.RowKit

theorem elem_take (s : ByteArray) (k : Nat) (h : k < s.size) (c : UInt8) (hc : c = s[k]) : NU.elem ((L s).take (k + 1)) = NU.elem ((L s).take k) ++ NU.elem1 c := by
  have e1 : (L s).take (k + 1) = (L s).take k ++ [c] := by
    rw [List.take_succ_eq_append_getElem (by rw [L_length]; exact h), hc]; rfl
  rw [e1, NU.elem_app]; simp [NU.elem]
theorem one_ext (s : ByteArray) (k : Nat) (h : k < s.size) (c : UInt8) (hc : c = s[k]) : L (s.extract k (k + 1)) = [c] := by
  rw [ext_mk, L_mk, drop_cons s k h, ← hc, show k + 1 - k = 1 by omega]; rfl
theorem digs_ext (x : UInt8) (k : Nat) (hk : k = x.toNat) (h : k < 16) : (⟨#[48, 49, 50, 51, 52, 53, 54, 55, 56, 57, 65, 66, 67, 68, 69, 70]⟩ : ByteArray).extract k (k + 1) = mk [NU.hexU x] := by
  subst hk
  apply eq_L
  have hs : (⟨#[48, 49, 50, 51, 52, 53, 54, 55, 56, 57, 65, 66, 67, 68, 69, 70]⟩ : ByteArray).size = 16 := rfl
  rw [one_ext _ _ (by omega) (NU.hexU x) (hexd_at x _ rfl _).symm, L_mk]
theorem mk_app (a b : List UInt8) : mk a ++ mk b = mk (a ++ b) := by apply eq_L; rw [L_app, L_mk, L_mk, L_mk]

set_option maxRecDepth 100000 in
set_option maxHeartbeats 2000000 in
theorem Element_any (s : ByteArray) (w : World) (hs : s.size ≤ 274877906944) :
    Calls Tryd.prog 7 #[.string s] w fun e w' => e = .returned (.string (mk (NU.elem (L s)))) ∧ Fr w w' := by
  have C := Lib.hid (fun c W => unreserved_any c W)
  go_enter Tryd.func7, Tryd.ntmps7
  go_wp2
  go_loopw [3, 8] (fun o i wr => ∃ (k : Nat) (b : ByteArray), k ≤ s.size ∧ i = .int .i64 (k : Int) ∧ o = .string b ∧ b.size ≤ 3 * k ∧ Fr w wr ∧ Hid (L b = NU.elem ((L s).take k))) (fun _ i _ => s.size - (intOf i).toNat)
  case atStart => exact ⟨0, ⟨#[]⟩, by omega, rfl, rfl, Nat.le_refl _, Fr.refl _, by show _ = _; simp [NU.elem, L]⟩
  case round =>
    obtain ⟨k, b, hk, rfl, rfl, hbz, hfr, HB⟩ := hrel
    by_cases hlt : k < s.size
    · obtain ⟨c, hc⟩ : ∃ c, c = s[k] := ⟨_, rfl⟩
      have HE := Lib.hid (elem_take s k hlt c hc)
      have HX := Lib.hid (one_ext s k hlt c hc)
      have hc' := hc.symm
      have hb47 := u8beq c 47
      have hct := c.toNat_lt
      clear hc
      cases hun : (NU.unreserved c || c == 47)
      · have h1 : NU.unreserved c = false := by rw [Bool.or_eq_false_iff] at hun; exact hun.1
        have h2 : ((c.toNat : Int) == 47) = false := by rw [Bool.or_eq_false_iff] at hun; rw [show (47 : Int) = ((47 : UInt8).toNat : Int) from rfl, hb47]; exact hun.2
        have he : NU.elem1 c = [37, NU.hexU (c >>> 4), NU.hexU (c &&& 15)] := by rw [NU.elem1, hun]; rfl
        rw [he] at HE
        have d1 := Lib.hid <| digs_ext (c >>> 4) (c.toNat / 16) (NU.shr4_nat c).symm (by omega)
        have d2 := Lib.hid <| digs_ext (c &&& 15) (c.toNat % 16) (NU.and15_nat c).symm (by omega)
        have h1 := Lib.hid h1
        have q1 : (c.toNat : Int) / 16 < 16 := by omega
        have q2 : (0 : Int) ≤ (c.toNat : Int) / 16 := by omega
        have q3 : (c.toNat : Int) % 16 < 16 := by omega
        have q4 : (0 : Int) ≤ (c.toNat : Int) % 16 := by omega
        have q5 : (c.toNat : Int) / 16 + 1 ≤ 16 := by omega
        have q6 : (0 : Int) ≤ (c.toNat : Int) / 16 + 1 := by omega
        have q7 : (c.toNat : Int) % 16 + 1 ≤ 16 := by omega
        have q8 : (0 : Int) ≤ (c.toNat : Int) % 16 + 1 := by omega
        have q9 : (c.toNat : Int) / 16 ≤ (c.toNat : Int) / 16 + 1 := by omega
        have q10 : (c.toNat : Int) % 16 ≤ (c.toNat : Int) % 16 + 1 := by omega
        have w1 : IntKind.u8.wrap ((c.toNat : Int) / 16 + 1) = (c.toNat : Int) / 16 + 1 := by rw [IntKind.wrap_u8]; omega
        have w2 : IntKind.u8.wrap ((c.toNat : Int) % 16 + 1) = (c.toNat : Int) % 16 + 1 := by rw [IntKind.wrap_u8]; omega
        have t1 : ((c.toNat : Int) / 16).toNat = c.toNat / 16 := by omega
        have t2 : ((c.toNat : Int) % 16).toNat = c.toNat % 16 := by omega
        have t3 : ((c.toNat : Int) / 16 + 1).toNat = c.toNat / 16 + 1 := by omega
        have t4 : ((c.toNat : Int) % 16 + 1).toNat = c.toNat % 16 + 1 := by omega
        clear he hb47 hun
        go_wp2_with (go_at_call 17; (with_reducible refine (C.out _ _).mono ?_); rintro e w3 ⟨rfl, hf3⟩; rw [h1.out])
        go_region
        all_goals go_wp2
        go_roundw
        case rel => exact ⟨k + 1, _, by omega, by first | rfl | go_num, rfl, by simp only [ByteArray.size_append, d1.out, d2.out, mk_size, List.length_cons, List.length_nil]; (have : (⟨#[37]⟩ : ByteArray).size = 1 := rfl); omega, (hfr.trans hf3).drew, by show _ = _; rw [L_app, L_app, L_app, HB.out, HE.out, d1.out, d2.out]; rfl⟩
        case measure => first | (simp [intOf]; done) | (simp [intOf]; omega)
      · have he : NU.elem1 c = [c] := by rw [NU.elem1, hun]; rfl
        rw [he] at HE
        have hz : NU.unreserved c = true ∨ (NU.unreserved c = false ∧ ((c.toNat : Int) == 47) = true) := by
          cases h : NU.unreserved c
          · right; refine ⟨rfl, ?_⟩; rw [h] at hun; rw [show (47 : Int) = ((47 : UInt8).toNat : Int) from rfl, hb47]; simpa using hun
          · left; rfl
        clear he hb47 hun
        rcases hz with h1 | ⟨h1, h2⟩
        all_goals
          have h1 := Lib.hid h1
          go_wp2_with (go_at_call 17; (with_reducible refine (C.out _ _).mono ?_); rintro e w3 ⟨rfl, hf3⟩; rw [h1.out])
          go_roundw
          case rel => exact ⟨k + 1, _, by omega, by first | rfl | go_num, rfl, by rw [ByteArray.size_append, ← L_length (s.extract k (k + 1)), HX.out, List.length_cons, List.length_nil]; omega, hfr.trans hf3, by show _ = _; rw [L_app, HB.out, HE.out, HX.out]⟩
          case measure => first | (simp [intOf]; done) | (simp [intOf]; omega)
    · have HF : Hid (b = mk (NU.elem (L s))) := by
        show _ = _
        rw [← mk_L b, HB.out, List.take_of_length_le (by rw [L_length]; omega)]
      go_wp2
      go_ret
      exact ⟨ret_str HF.out, hfr⟩

end Go.Proofs.YtibcegbacnjmfaaDoor
