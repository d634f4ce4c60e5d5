import Derived.Test.YtibcegbacnjmfaaDoorW97
import Derived.Test.YtibcegbacnjmfaaDoorW98
namespace Go.Proofs.YtibcegbacnjmfaaDoor
set_option linter.unusedVariables false
set_option linter.unusedSimpArgs false
open Go.RowKit

theorem implStringP (P : IUrl) (G : PlainG P) (w : World) (ht : Hid (Tab w)) :
    Calls Tryd.prog 14 #[.agg (iurlA P)] w fun e w' => e = .returned (.string (pstrP P)) ∧ Fr w w' := by
  have hF := G.f
  obtain ⟨sc, op, hu, un, hp, pw, ho, pa, rp, fq, rq, fr, rf, oh, ep, ef⟩ := P
  obtain ⟨h1, h2, h3, h4, hsc, hho, hpa, z1, z2, z3, z4, z5, z6, z7⟩ := hF
  dsimp only at h1 h2 h3 h4 hsc hho hpa z1 z2 z3 z4 z5 z6 z7
  subst h1 h2 h3 h4
  exact implString_any sc un pw ho pa rq fr ep ef hu hp fq hsc hho hpa z1 z2 z3 z4 z5 z6 z7 w ht
/-- spec.Plain's contract, as the laws need it. -/
theorem PlainG_any (x y : Int) (u : IUrl) (hf : FitsU u) (W : World) : Calls Tryd.prog 13 #[.int .i64 x, .int .i64 y, .agg (iurlA u)] W fun e w' => (∃ P : IUrl, e = .returned (.agg (iurlA P)) ∧ PlainG P) ∧ Fr W w' := by
  refine (Plain_any x y u hf.2.2.1 hf.2.2.2.1 W).mono ?_
  rintro e w' ⟨⟨i, j, hi, hj, rfl⟩, hF⟩
  exact ⟨⟨_, rfl, plainI_G i j hi hj u hf⟩, hF⟩
theorem back_clear (P : IUrl) (G : PlainG P) : ((iurlA (backP P)).setIfInBounds 14 (.string ⟨#[]⟩)).setIfInBounds 15 (.string ⟨#[]⟩) = iurlA P := by
  have h1 := G.ep
  have h2 := G.ef
  obtain ⟨sc, op, hu, un, hp, pw, ho, pa, rp, fq, rq, fr, rf, oh, ep, ef⟩ := P
  dsimp only at h1 h2
  subst h1 h2
  rfl
set_option maxRecDepth 100000 in
set_option maxHeartbeats 16000000 in
theorem FnFieldsBack_any (x y : Int) (u : IUrl) (w : World) (ht : Tab w) :
    Calls Tryd.prog 5 #[.int .i64 x, .int .i64 y, .agg (iurlA u)] w fun e w' => e = .returned (.bool true) ∧ Fr w w' := by
  replace ht := Lib.hid ht
  have CZ := Lib.hid (zzFits1_any u)
  have CP := Lib.hid (fun hf W => PlainG_any x y u hf W)
  have B0 : Hid (Blk (w.alloc (.cells (iurlA u) 26)) w.heap.size 26 (iurlA u)) := Lib.hid (Blk.new _ _ _)
  go_enter Tryd.func5, Tryd.ntmps5
  go_upto_if 11 with (first
    | (refine wpList_load_iu rfl _ rfl _ rfl _ _ B0 rfl ?_)
    | (go_at_call 12; (with_reducible refine (CZ.out _).mono ?_); rintro e w1 ⟨⟨b, rfl, hb⟩, hf1⟩; replace hb := Lib.hid hb; replace hf1 := Lib.hid hf1)
    | fail)
  cases b
  · go_wp2
    go_ret
    exact ⟨rfl, ((Fr.refl _).alloc _).trans hf1.out⟩
  · have CP2 := Lib.hid (CP.out (hb.out rfl))
    have B1 := Lib.hid (B0.out.below hf1.out (by simp))
    have hF1 : Hid (Fr w w1) := Lib.hid (((Fr.refl w).alloc _).trans hf1.out)
    clear hf1 B0 CP hb
    go_upto_region 4 with (first
      | (refine wpList_load_iu rfl _ rfl _ rfl _ _ B1 rfl ?_)
      | (go_at_call 13; (with_reducible refine (CP2.out _).mono ?_); rintro e w2 ⟨⟨P, rfl, hP⟩, hf2⟩; replace B1 := Lib.hid (B1.out.below hf2 B1.out.lt); replace hF1 : Hid (Fr w _) := Lib.hid (Fr.trans hF1.out hf2); clear hf2)
      | (refine wpList_store_iu rfl _ _ rfl _ _ rfl rfl _ _ B1 rfl rfl (iurlA_one _) ?_)
      | fail)
    obtain ⟨W3, hW3⟩ : ∃ W3, W3 = w2.setRow w.heap.size (iurlA P) := ⟨_, rfl⟩
    have B3 : Hid (Blk W3 w.heap.size 26 (iurlA P)) := by rw [hW3]; exact Lib.hid (B1.out.row _)
    have F3 : Hid (Fr w W3) := by rw [hW3]; exact Lib.hid (hF1.out.setRow (Nat.le_refl _) _)
    rw [← hW3]
    clear hW3 B1 hF1 CP2
    have C1 := Lib.hid (fun W hW => implStringP P hP W hW)
    have C2 := Lib.hid (fun W hW => implParseP P hP W hW)
    have C3 := Lib.hid (fun W => Same_refl P W)
    have HCL := Lib.hid (back_clear P hP)
    obtain ⟨R, hR⟩ : ∃ R, R = pstrP P := ⟨_, rfl⟩
    obtain ⟨T, hT⟩ : ∃ T, T = backP P := ⟨_, rfl⟩
    rw [← hR] at C1 C2
    rw [← hT] at C2 HCL
    clear hR hT hP
    go_upto_region 5 with (first
      | (refine wpList_load_iu rfl _ rfl _ rfl _ _ B3 rfl ?_)
      | (go_at_call 14; (with_reducible refine (C1.out _ (Lib.hid (ht.out.fr F3.out))).mono ?_); rintro e w4 ⟨rfl, hf4⟩; replace B3 := Lib.hid (B3.out.below hf4 B3.out.lt); replace F3 : Hid (Fr w _) := Lib.hid (Fr.trans F3.out hf4); clear hf4)
      | (go_at_call 9; (with_reducible refine (C2.out _ (Lib.hid (ht.out.fr F3.out))).mono ?_); rintro e w5 ⟨rfl, hf5⟩; replace B3 := Lib.hid (B3.out.below hf5 B3.out.lt); replace F3 : Hid (Fr w _) := Lib.hid (Fr.trans F3.out hf5); clear hf5; have B5 : Hid (Blk (w5.alloc (.cells (iurlA zeroU) 26)) w5.heap.size 26 (iurlA zeroU)) := Lib.hid (Blk.new _ _ _))
      | (refine wpList_store_iu rfl _ _ rfl _ _ rfl rfl _ _ B5 rfl rfl (iurlA_one _) ?_)
      | fail)
    obtain ⟨k, hk⟩ : ∃ k, k = w5.heap.size := ⟨_, rfl⟩
    have hkw : Hid (w.heap.size < k) := by rw [hk]; exact Lib.hid B3.out.lt
    obtain ⟨W6, hW6⟩ : ∃ W6, W6 = (w5.alloc (.cells (iurlA zeroU) 26)).setRow k (iurlA T) := ⟨_, rfl⟩
    have F6 : Hid (Fr w W6) := by rw [hW6]; exact Lib.hid ((F3.out.alloc _).setRow (by have := hkw.out; omega) _)
    have BU6 : Hid (Blk W6 w.heap.size 26 (iurlA P)) := by rw [hW6]; exact Lib.hid ((B3.out.alloc _).farRow (by have := hkw.out; omega) _)
    have BV6 : Hid (Blk W6 k 26 (iurlA T)) := by rw [hW6, hk]; exact Lib.hid (B5.out.row _)
    rw [← hk]
    dsimp only [iurlA, zeroU] at hW6
    rw [← hW6]
    clear hW6 B5 B3 F3 hk
    have c14 : W6.cell? ⟨k, 14, none⟩ = some (.string T.escapedPath) := BV6.out.cell 14
    have c15 : W6.cell? ⟨k, 15, none⟩ = some (.string T.escapedFragment) := BV6.out.cell 15
    have f14 := BV6.out.frozen 14
    have f15 := BV6.out.frozen 15
    go_upto_region 6 with fail
    obtain ⟨W7, hW7⟩ : ∃ W7, W7 = (W6.setCell ⟨k, 14, none⟩ (.string ⟨#[]⟩)).setCell ⟨k, 15, none⟩ (.string ⟨#[]⟩) := ⟨_, rfl⟩
    have F7 : Hid (Fr w W7) := by rw [hW7]; exact Lib.hid ((F6.out.setCell (p := ⟨k, 14, none⟩) (by have := hkw.out; show w.heap.size ≤ k; omega) _).setCell (p := ⟨k, 15, none⟩) (by have := hkw.out; show w.heap.size ≤ k; omega) _)
    have BU7 : Hid (Blk W7 w.heap.size 26 (iurlA P)) := by rw [hW7]; exact Lib.hid ((BU6.out.far (by have := hkw.out; show w.heap.size ≠ k; omega) _).far (by have := hkw.out; show w.heap.size ≠ k; omega) _)
    have BV7 : Hid (Blk W7 k 26 (iurlA P)) := by rw [hW7, ← HCL.out]; exact Lib.hid ((BV6.out.set_ 14 _).set_ 15 _)
    rw [← hW7]
    clear hW7 c14 c15 f14 f15 BU6 BV6 F6
    go_wp2_with (first
      | (refine wpList_load_iu_g (by rfl) _ rfl _ rfl _ _ BU7 rfl ?_)
      | (refine wpList_load_iu_g (by rfl) _ rfl _ rfl _ _ BV7 rfl ?_)
      | (go_at_call 15; (with_reducible refine (C3.out _).mono ?_); rintro e w8 ⟨rfl, hf8⟩)
      | fail)
    go_ret
    exact ⟨rfl, F7.out.trans hf8⟩
end Go.Proofs.YtibcegbacnjmfaaDoor
