import Derived.Test.YtibcegbacnjmfaaGreatDoorW86
namespace Go.Proofs.YtibcegbacnjmfaaGreatDoor
set_option linter.unusedVariables false
set_option linter.unusedSimpArgs false
open Go.RowKit

set_option maxRecDepth 100000 in
set_option maxHeartbeats 16000000 in
theorem FnRedacted_any (x y : Int) (u : IUrl) (w : World) (ht : Tab w) :
    Calls Tryz.prog 4 #[.int .i64 x, .int .i64 y, .agg (iurlA u)] w fun e w' => e = .returned (.bool true) ∧ Fr w w' := by
  replace ht := Lib.hid ht
  have CZ := Lib.hid (zzFits1_any u)
  have CW := Lib.hid works_any
  have CP : Hid (FitsU u → ∀ W, Calls Tryz.prog 11 #[.int .i64 x, .int .i64 y, .agg (iurlA u)] W fun e w' => (∃ P : IUrl, e = .returned (.agg (iurlA P)) ∧ PlainF P) ∧ Fr W w') := by
    show _ → ∀ W, _
    intro hf W
    refine (Plain_any x y u hf.2.2.1 hf.2.2.2.1 W).mono ?_
    rintro e w' ⟨⟨i, j, _, _, rfl⟩, hF⟩
    exact ⟨⟨_, rfl, plainI_F i j u hf⟩, hF⟩
  have B0 : Hid (Blk (w.alloc (.cells (iurlA u) 28)) w.heap.size 28 (iurlA u)) := Lib.hid (Blk.new _ _ _)
  go_enter Tryz.func4, Tryz.ntmps4
  go_upto_if 10 with (first
    | (refine wpList_load_iu rfl _ rfl _ rfl _ _ B0 rfl ?_)
    | (go_at_call 10; (with_reducible refine (CZ.out _).mono ?_); rintro e w1 ⟨⟨b, rfl, hb⟩, hf1⟩; replace hb := Lib.hid hb; replace hf1 := Lib.hid hf1)
    | fail)
  cases b
  · go_wp2
    go_ret
    exact ⟨rfl, ((Fr.refl _).alloc _).trans hf1.out⟩
  · have CP2 := Lib.hid (CP.out (hb.out rfl))
    have B1 := Lib.hid (B0.out.below hf1.out (by simp))
    have hF1 : Hid (Fr w w1) := Lib.hid (((Fr.refl w).alloc _).trans hf1.out)
    clear hf1 B0 CP hb
    go_upto_region 4 with (first
      | (refine wpList_load_iu rfl _ rfl _ rfl _ _ B1 rfl ?_)
      | (go_at_call 11; (with_reducible refine (CP2.out _).mono ?_); rintro e w2 ⟨⟨P, rfl, hP⟩, hf2⟩; replace B1 := Lib.hid (B1.out.below hf2 B1.out.lt); replace hF1 : Hid (Fr w _) := Lib.hid (Fr.trans hF1.out hf2); clear hf2)
      | (refine wpList_store_iu rfl _ _ rfl _ _ rfl rfl _ _ B1 rfl rfl (iurlA_one _) ?_)
      | fail)
    obtain ⟨W3, hW3⟩ : ∃ W3, W3 = w2.setRow w.heap.size (iurlA P) := ⟨_, rfl⟩
    have B3 : Hid (Blk W3 w.heap.size 28 (iurlA P)) := by rw [hW3]; exact Lib.hid (B1.out.row _)
    have F3 : Hid (Fr w W3) := by rw [hW3]; exact Lib.hid (hF1.out.setRow (Nat.le_refl _) _)
    rw [← hW3]
    clear hW3 B1 hF1 CP2
    obtain ⟨sc, op, hu, un, hp, pw, ho, pa, rp, fq, rq, fr, rf, oh, ep, ef⟩ := P
    obtain ⟨h1, h2, h3, h4, hsc, hho, hpa, z1, z2, z3, z4, z5, z6, z7⟩ := hP
    dsimp only at h1 h2 h3 h4 hsc hho hpa z1 z2 z3 z4 z5 z6 z7
    subst h1 h2 h3 h4
    have C1 := Lib.hid (fun W hW => implRedacted_any sc un pw ho pa rq fr ep ef hu hp fq hsc hho hpa z1 z2 z3 z4 z5 z6 z7 W hW)
    have C2 := Lib.hid (fun W hW => implString_any sc un (if hp then xxxxx else pw) ho pa rq fr ep ef hu hp fq hsc hho hpa z1 z2 z3 z4 z5 z6 (by split; (show (5 : Nat) ≤ _; omega); exact z7) W hW)
    rw [red_us] at C1
    obtain ⟨R, hR⟩ : ∃ R, R = mk (NU.pstr (L sc) (userL (usOf hu un hp (if hp then xxxxx else pw))) (L ho) (L pa) (L fr) (L rq) fq) := ⟨_, rfl⟩
    rw [← hR] at C1 C2
    clear hR hsc hho hpa z1 z2 z3 z4 z5 z6 z7
    dsimp only [iurlA] at B3
    cases hp
    · rw [if_neg (by simp)] at C2
      go_wp2_with (first
        | (refine wpList_load_iu rfl _ rfl _ rfl _ _ B3 rfl ?_)
        | (go_at_call 12; (with_reducible refine (C1.out _ (Lib.hid (ht.out.fr F3.out))).mono ?_); rintro e w4 ⟨rfl, hf4⟩; replace B3 := Lib.hid (B3.out.below hf4 B3.out.lt); replace F3 : Hid (Fr w _) := Lib.hid (Fr.trans F3.out hf4); clear hf4; have c4 : w4.cell? ⟨w.heap.size, 4, none⟩ = some (.bool false) := B3.out.cell 4)
        | (go_at_call 13; (with_reducible refine (C2.out _ (Lib.hid (ht.out.fr F3.out))).mono ?_); rintro e w5 ⟨rfl, hf5⟩; replace F3 : Hid (Fr w _) := Lib.hid (Fr.trans F3.out hf5); clear hf5)
        | (go_at_call 14; (with_reducible refine (CW.out _ (Lib.hid (ht.out.fr F3.out))).mono ?_); rintro e w6 ⟨rfl, hf6⟩)
        | fail)
      go_ret
      exact ⟨rfl, F3.out.trans hf6⟩
    · rw [if_pos rfl, show xxxxx = ⟨#[120, 120, 120, 120, 120]⟩ from rfl] at C2
      go_wp2_with (first
        | (refine wpList_load_iu rfl _ rfl _ rfl _ _ B3 rfl ?_)
        | (go_at_call 12; (with_reducible refine (C1.out _ (Lib.hid (ht.out.fr F3.out))).mono ?_); rintro e w4 ⟨rfl, hf4⟩; replace B3 := Lib.hid (B3.out.below hf4 B3.out.lt); replace F3 : Hid (Fr w _) := Lib.hid (Fr.trans F3.out hf4); clear hf4; have c4 : w4.cell? ⟨w.heap.size, 4, none⟩ = some (.bool true) := B3.out.cell 4; have c5 : w4.cell? ⟨w.heap.size, 5, none⟩ = some (.string pw) := B3.out.cell 5; have f5 := B3.out.frozen 5; have B4 : Hid (Blk (w4.setCell ⟨w.heap.size, 5, none⟩ (.string ⟨#[120, 120, 120, 120, 120]⟩)) w.heap.size 28 #[.string sc, .string ⟨#[]⟩, .bool hu, .string un, .bool true, .string ⟨#[120, 120, 120, 120, 120]⟩, .string ho, .string pa, .string ⟨#[]⟩, .bool fq, .string rq, .string fr, .string ⟨#[]⟩, .bool false, .string ep, .string ef]) := Lib.hid (B3.out.set_ 5 (.string ⟨#[120, 120, 120, 120, 120]⟩)); have F4 : Hid (Fr w _) := Lib.hid (F3.out.setCell (p := ⟨w.heap.size, 5, none⟩) (Nat.le_refl _) (.string ⟨#[120, 120, 120, 120, 120]⟩)); clear B3)
        | (refine wpList_load_iu rfl _ rfl _ rfl _ _ B4 rfl ?_)
        | (go_at_call 13; (with_reducible refine (C2.out _ (Lib.hid (ht.out.fr F4.out))).mono ?_); rintro e w5 ⟨rfl, hf5⟩; replace F4 : Hid (Fr w _) := Lib.hid (Fr.trans F4.out hf5); clear hf5)
        | (go_at_call 14; (with_reducible refine (CW.out _ (Lib.hid (ht.out.fr F4.out))).mono ?_); rintro e w6 ⟨rfl, hf6⟩)
        | fail)
      go_ret
      exact ⟨rfl, F4.out.trans hf6⟩
end Go.Proofs.YtibcegbacnjmfaaGreatDoor
