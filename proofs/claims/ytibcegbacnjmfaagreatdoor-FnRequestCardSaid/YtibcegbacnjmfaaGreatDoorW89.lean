import Derived.Test.YtibcegbacnjmfaaGreatDoorW48
import Derived.Test.YtibcegbacnjmfaaGreatDoorW80
namespace Go.Proofs.YtibcegbacnjmfaaGreatDoor
set_option linter.unusedVariables false
set_option linter.unusedSimpArgs false
open Go.RowKit

/-- .. with the user. -/
def told2 (U : UrlR) (n p : ByteArray) (b : Bool) : IUrl := { told0 U with hasUser := true, username := n, hasPassword := b, password := p }
def told3 (U : UrlR) (n p : ByteArray) (b : Bool) : IUrl := { told2 U n p b with escapedPath := mk (NU.escPath (L U.path) (L U.rawPath)), escapedFragment := mk (NU.escFrag (L U.fragment) (L U.rawFragment)) }
theorem told3_eq (U : UrlR) (n p : ByteArray) (b : Bool) (hU : U.user = some (n, p, b)) : told3 U n p b = toldOf U := by
  obtain ⟨sc, op, us, ho, pa, fr, rq, rp, rf, fq, oh⟩ := U
  have : us = some (n, p, b) := hU
  subst this; rfl
set_option maxRecDepth 100000 in
set_option maxHeartbeats 8000000 in
theorem told_some (g : Nat) (U : UrlR) (n p : ByteArray) (b : Bool) (hU : U.user = some (n, p, b)) (h1 : U.path.size ≤ 274877906944) (h2 : U.rawPath.size ≤ 274877906944) (h3 : U.fragment.size ≤ 274877906944) (h4 : U.rawFragment.size ≤ 274877906944) (w : World) (h : Hid (UrlIs w g U)) (ht : Hid (Tab w)) :
    Calls Tryz.prog 21 #[.pointer (some ⟨g, 0, none⟩)] w fun e w' => e = .returned (.agg (iurlA (toldOf U))) ∧ Fr w w' := by
  have HEQ := Lib.hid (told3_eq U n p b hU)
  have HG : Hid (g < w.heap.size) := h.out.lt
  obtain ⟨k, hbk, hbg⟩ : ∃ k, Blk w k 89 (userA n p b) ∧ Blk w g 64 (urlA U (.pointer (some ⟨k, 0, none⟩))) := by
    obtain ⟨v, hu, hb⟩ := h.out
    rw [hU] at hu
    obtain ⟨k, hk, hbk⟩ := hu
    subst hk
    exact ⟨k, hbk, hb⟩
  replace hbk := Lib.hid hbk
  replace hbg := Lib.hid hbg
  have CE := Lib.hid (urlEscapedPath_any g U h1 h2)
  have CF := Lib.hid (urlEscapedFragment_any g U h3 h4)
  have c := h.out.cells
  obtain ⟨d0, d1, d3, d4, d5, d6, d7, d8, d9, d10⟩ := c
  have hA : ∀ o, UrlIs (w.alloc o) g U := fun o => h.out.fr ((Fr.refl w).alloc o)
  have E0 : ∀ o, (w.alloc o).cell? ⟨g, 0, none⟩ = some (.string U.scheme) := fun o => (hA o).cells.1
  have E1 : ∀ o, (w.alloc o).cell? ⟨g, 1, none⟩ = some (.string U.opq) := fun o => (hA o).cells.2.1
  have E3 : ∀ o, (w.alloc o).cell? ⟨g, 3, none⟩ = some (.string U.host) := fun o => (hA o).cells.2.2.1
  have E4 : ∀ o, (w.alloc o).cell? ⟨g, 4, none⟩ = some (.string U.path) := fun o => (hA o).cells.2.2.2.1
  have E5 : ∀ o, (w.alloc o).cell? ⟨g, 5, none⟩ = some (.string U.fragment) := fun o => (hA o).cells.2.2.2.2.1
  have E6 : ∀ o, (w.alloc o).cell? ⟨g, 6, none⟩ = some (.string U.rawQuery) := fun o => (hA o).cells.2.2.2.2.2.1
  have E7 : ∀ o, (w.alloc o).cell? ⟨g, 7, none⟩ = some (.string U.rawPath) := fun o => (hA o).cells.2.2.2.2.2.2.1
  have E8 : ∀ o, (w.alloc o).cell? ⟨g, 8, none⟩ = some (.string U.rawFragment) := fun o => (hA o).cells.2.2.2.2.2.2.2.1
  have E9 : ∀ o, (w.alloc o).cell? ⟨g, 9, none⟩ = some (.bool U.forceQuery) := fun o => (hA o).cells.2.2.2.2.2.2.2.2.1
  have E10 : ∀ o, (w.alloc o).cell? ⟨g, 10, none⟩ = some (.bool U.omitHost) := fun o => (hA o).cells.2.2.2.2.2.2.2.2.2
  clear h1 h2 h3 h4 hA d0 d1 d3 d4 d5 d6 d7 d8 d9 d10
  go_enter Tryz.func21, Tryz.ntmps21
  go_wp2
  go_region_held3 (fun w' => w'.cell? ⟨g, 0, none⟩ = some (.string U.scheme) ∧ w'.cell? ⟨g, 1, none⟩ = some (.string U.opq) ∧ w'.cell? ⟨g, 3, none⟩ = some (.string U.host) ∧ w'.cell? ⟨g, 4, none⟩ = some (.string U.path) ∧ w'.cell? ⟨g, 5, none⟩ = some (.string U.fragment) ∧ w'.cell? ⟨g, 6, none⟩ = some (.string U.rawQuery) ∧ w'.cell? ⟨g, 7, none⟩ = some (.string U.rawPath) ∧ w'.cell? ⟨g, 8, none⟩ = some (.string U.rawFragment) ∧ w'.cell? ⟨g, 9, none⟩ = some (.bool U.forceQuery) ∧ w'.cell? ⟨g, 10, none⟩ = some (.bool U.omitHost))
    (first
      | go_keep
      | skip)
    (first
      | fail)
  obtain ⟨W1, hW1⟩ : ∃ W1, W1 = (((w.alloc (.cells (iurlA zeroU) 28)).alloc (.cells (iurlA (told0 U)) 28)).drew) := ⟨_, rfl⟩
  have HF1 : Hid (Fr w W1) := by rw [hW1]; exact Lib.hid (((Fr.refl w).alloc _).alloc _).drew
  have HB1 : Hid (Blk W1 (w.heap.size + 1) 28 (iurlA (told0 U))) := by rw [hW1]; exact Lib.hid (Blk.drew (Blk.new_at (by simp)))
  have HR1 : Hid (Blk W1 w.heap.size 28 (iurlA zeroU)) := by rw [hW1]; exact Lib.hid (Blk.drew ((Blk.new_at rfl).alloc _))
  dsimp only [iurlA, zeroU, told0] at hW1
  rw [← hW1]
  clear hW1 E0 E1 E3 E4 E5 E6 E7 E8 E9 E10
  have HK1 := Lib.hid (hbk.out.below HF1.out hbk.out.lt)
  have d2 : W1.cell? ⟨g, 2, none⟩ = some (.pointer (some ⟨k, 0, none⟩)) := (hbg.out.below HF1.out hbg.out.lt).cell 2
  have b2 := HB1.out.cell 2
  have b3 := HB1.out.cell 3
  have f2 := HB1.out.frozen 2
  have f3 := HB1.out.frozen 3
  obtain ⟨W2, hW2⟩ : ∃ W2, W2 = (W1.setCell ⟨w.heap.size + 1, 2, none⟩ (.bool true)).setCell ⟨w.heap.size + 1, 3, none⟩ (.string n) := ⟨_, rfl⟩
  have HF2 : Hid (Fr w W2) := by rw [hW2]; exact Lib.hid ((HF1.out.setCell (p := ⟨w.heap.size + 1, 2, none⟩) (by simp) _).setCell (p := ⟨w.heap.size + 1, 3, none⟩) (by simp) _)
  have HB2 : Hid (Blk W2 (w.heap.size + 1) 28 (iurlA { told0 U with hasUser := true, username := n })) := by rw [hW2]; exact Lib.hid ((HB1.out.set_ 2 _).set_ 3 _)
  have HR2 : Hid (Blk W2 w.heap.size 28 (iurlA zeroU)) := by rw [hW2]; exact Lib.hid ((HR1.out.far (by simp) _).far (by simp) _)
  have HK2 := Lib.hid (hbk.out.below HF2.out hbk.out.lt)
  have d2' : W2.cell? ⟨g, 2, none⟩ = some (.pointer (some ⟨k, 0, none⟩)) := (hbg.out.below HF2.out hbg.out.lt).cell 2
  go_upto_region 4 with (first
    | (go_at_call 35; (with_reducible refine (username_any k n p b _ HK1).mono ?_); rintro e w2 ⟨rfl, rfl⟩)
    | fail)
  rw [← hW2]
  clear hW2 d2 b2 b3 f2 f3 HB1 HR1 HK1
  go_upto_region 5 with (first
    | (go_at_call 36; (with_reducible refine (password_any k n p b _ HK2).mono ?_); rintro e w3 ⟨rfl, hf3⟩; have HB3 := Lib.hid (HB2.out.below hf3 HB2.out.lt); have HR3 := Lib.hid (HR2.out.below hf3 HR2.out.lt); have HF3 : Hid (Fr w w3) := Lib.hid (HF2.out.trans hf3); have b4 := HB3.out.cell 4; have b5 := HB3.out.cell 5; have f4 := HB3.out.frozen 4; have f5 := HB3.out.frozen 5; clear hf3)
    | fail)
  obtain ⟨W4, hW4⟩ : ∃ W4, W4 = (w3.setCell ⟨w.heap.size + 1, 5, none⟩ (.string p)).setCell ⟨w.heap.size + 1, 4, none⟩ (.bool b) := ⟨_, rfl⟩
  have HF4 : Fr w W4 := by rw [hW4]; exact ((HF3.out.setCell (p := ⟨w.heap.size + 1, 5, none⟩) (by simp) _).setCell (p := ⟨w.heap.size + 1, 4, none⟩) (by simp) _)
  have HB4 : Hid (Blk W4 (w.heap.size + 1) 28 (iurlA (told2 U n p b))) := by rw [hW4]; exact Lib.hid ((HB3.out.set_ 5 _).set_ 4 _)
  have HR4 : Hid (Blk W4 w.heap.size 28 (iurlA zeroU)) := by rw [hW4]; exact Lib.hid ((HR3.out.far (by simp) _).far (by simp) _)
  rw [← hW4]
  clear hW4 b4 b5 f4 f5 HB3 HR3 HF3 d2' HB2 HR2 HK2 HF1 HF2
  go_wp2_with (first
    | (go_at_call 37; (with_reducible refine (CE.out _ (Lib.hid (h.out.fr HF4)) (Lib.hid (ht.out.fr HF4))).mono ?_); rintro e w5 ⟨rfl, hf2⟩; have hF2 := HF4.trans hf2)
    | (go_at_call 38; (with_reducible refine (CF.out _ (Lib.hid (h.out.fr hF2)) (Lib.hid (ht.out.fr hF2))).mono ?_); rintro e w6 ⟨rfl, hf3⟩; have hF3 := hF2.trans hf3; have hf23 := hf2.trans hf3; have hb3 := Lib.hid (HB4.out.below hf23 HB4.out.lt); have hr3 := Lib.hid (HR4.out.below hf23 HR4.out.lt); have c14 := hb3.out.cell 14; have f14 := hb3.out.frozen 14; have c15 := hb3.out.cell 15; have f15 := hb3.out.frozen 15; have hbZ : Hid (Blk ((w6.setCell ⟨w.heap.size + 1, 14, none⟩ (.string (mk (NU.escPath (L U.path) (L U.rawPath))))).setCell ⟨w.heap.size + 1, 15, none⟩ (.string (mk (NU.escFrag (L U.fragment) (L U.rawFragment))))) (w.heap.size + 1) 28 (iurlA (told3 U n p b))) := (Lib.hid ((hb3.out.set_ 14 _).set_ 15 _)); have hrZ : Hid (Blk ((w6.setCell ⟨w.heap.size + 1, 14, none⟩ (.string (mk (NU.escPath (L U.path) (L U.rawPath))))).setCell ⟨w.heap.size + 1, 15, none⟩ (.string (mk (NU.escFrag (L U.fragment) (L U.rawFragment))))) w.heap.size 28 (iurlA zeroU)) := (Lib.hid ((hr3.out.far (by simp) _).far (by simp) _)); clear hb3 hr3 HB4 HR4)
    | (refine wpList_load_iu rfl _ rfl _ rfl _ _ hbZ rfl ?_)
    | (refine wpList_store_iu rfl _ _ rfl _ _ rfl rfl _ _ hrZ rfl rfl (iurlA_one _) ?_)
    | fail)
  (try simp only [Exit.inBlock, Exit.then])
  refine bodyPost_ret (ret_iu rfl _ _ _ rfl _ _ (hrZ.out.row _) rfl) rfl ?_
  refine ⟨by rw [← HEQ.out], ?_⟩
  exact ((hF3.setCell (p := ⟨w.heap.size + 1, 14, none⟩) (by simp) _).setCell (p := ⟨w.heap.size + 1, 15, none⟩) (by simp) _).setRow (Nat.le_refl _) _
end Go.Proofs.YtibcegbacnjmfaaGreatDoor
