import Derived.Test.YtibcegbacnjmfaaGreatDoorW43
import Derived.Test.YtibcegbacnjmfaaGreatDoorW42
import Derived.Test.YtibcegbacnjmfaaGreatDoorW47
import Derived.Deep.RegionHeld3
import Derived.Outline
namespace Go.Proofs.YtibcegbacnjmfaaGreatDoor
set_option linter.unusedVariables false
set_option linter.unusedSimpArgs false
open Go.RowKit

/-- A URL as data, as impl.told tells it. -/
def toldOf (U : UrlR) : IUrl :=
  { scheme := U.scheme, opq := U.opq, hasUser := U.user.isSome, username := (U.user.map (·.1)).getD ⟨#[]⟩, hasPassword := (U.user.map (·.2.2)).getD false, password := (U.user.map (·.2.1)).getD ⟨#[]⟩,
    host := U.host, path := U.path, rawPath := U.rawPath, forceQuery := U.forceQuery, rawQuery := U.rawQuery, fragment := U.fragment, rawFragment := U.rawFragment, omitHost := U.omitHost,
    escapedPath := mk (NU.escPath (L U.path) (L U.rawPath)), escapedFragment := mk (NU.escFrag (L U.fragment) (L U.rawFragment)) }

/-- .. its fields of the URL's own, and nothing else yet. -/
def zeroU : IUrl := ⟨⟨#[]⟩, ⟨#[]⟩, false, ⟨#[]⟩, false, ⟨#[]⟩, ⟨#[]⟩, ⟨#[]⟩, ⟨#[]⟩, false, ⟨#[]⟩, ⟨#[]⟩, ⟨#[]⟩, false, ⟨#[]⟩, ⟨#[]⟩⟩
def told0 (U : UrlR) : IUrl := ⟨U.scheme, U.opq, false, ⟨#[]⟩, false, ⟨#[]⟩, U.host, U.path, U.rawPath, U.forceQuery, U.rawQuery, U.fragment, U.rawFragment, U.omitHost, ⟨#[]⟩, ⟨#[]⟩⟩
def told1 (U : UrlR) : IUrl := { told0 U with escapedPath := mk (NU.escPath (L U.path) (L U.rawPath)), escapedFragment := mk (NU.escFrag (L U.fragment) (L U.rawFragment)) }
theorem told1_eq (U : UrlR) (hU : U.user = none) : told1 U = toldOf U := by
  obtain ⟨sc, op, us, ho, pa, fr, rq, rp, rf, fq, oh⟩ := U
  have : us = none := hU
  subst this; rfl
set_option maxHeartbeats 1000000 in
theorem username_any (k : Nat) (n p : ByteArray) (b : Bool) (w : World) (h : Hid (Blk w k 89 (userA n p b))) :
    Calls Tryz.prog 35 #[.pointer (some ⟨k, 0, none⟩)] w fun e w' => e = .returned (.string n) ∧ w = w' := by
  have c0 : w.cell? ⟨k, 0, none⟩ = some (.string n) := h.out.cell 0
  go_enter Tryz.func35, Tryz.ntmps35
  go_wp2
  go_ret
  exact ⟨rfl, rfl⟩
set_option maxHeartbeats 1000000 in
theorem password_any (k : Nat) (n p : ByteArray) (b : Bool) (w : World) (h : Hid (Blk w k 89 (userA n p b))) :
    Calls Tryz.prog 36 #[.pointer (some ⟨k, 0, none⟩)] w fun e w' => e = .returned (.tuple #[.string p, .bool b]) ∧ Fr w w' := by
  have c1 : w.cell? ⟨k, 1, none⟩ = some (.string p) := h.out.cell 1
  have c2 : w.cell? ⟨k, 2, none⟩ = some (.bool b) := h.out.cell 2
  go_enter Tryz.func36, Tryz.ntmps36
  go_wp2
  go_region
  all_goals go_wp2
  all_goals go_ret2
  all_goals exact ⟨rfl, (Fr.refl _).drew⟩

set_option maxRecDepth 100000 in
set_option maxHeartbeats 8000000 in
theorem told_none (g : Nat) (U : UrlR) (hU : U.user = none) (h1 : U.path.size ≤ 274877906944) (h2 : U.rawPath.size ≤ 274877906944) (h3 : U.fragment.size ≤ 274877906944) (h4 : U.rawFragment.size ≤ 274877906944) (w : World) (h : Hid (UrlIs w g U)) (ht : Hid (Tab w)) :
    Calls Tryz.prog 21 #[.pointer (some ⟨g, 0, none⟩)] w fun e w' => e = .returned (.agg (iurlA (toldOf U))) ∧ Fr w w' := by
  have CE := Lib.hid (urlEscapedPath_any g U h1 h2)
  have CF := Lib.hid (urlEscapedFragment_any g U h3 h4)
  have c := h.out.cells
  obtain ⟨d0, d1, d3, d4, d5, d6, d7, d8, d9, d10⟩ := c
  have d2 : w.cell? ⟨g, 2, none⟩ = some (.pointer none) := by
    obtain ⟨v, hu, hb⟩ := h.out; rw [hU] at hu; rw [← show v = .pointer none from hu]; exact hb.cell 2
  have hA : ∀ o, UrlIs (w.alloc o) g U := fun o => h.out.fr ((Fr.refl w).alloc o)
  have E0 : ∀ o, (w.alloc o).cell? ⟨g, 0, none⟩ = some (.string U.scheme) := fun o => (hA o).cells.1
  have E1 : ∀ o, (w.alloc o).cell? ⟨g, 1, none⟩ = some (.string U.opq) := fun o => (hA o).cells.2.1
  have E3 : ∀ o, (w.alloc o).cell? ⟨g, 3, none⟩ = some (.string U.host) := fun o => (hA o).cells.2.2.1
  have E4 : ∀ o, (w.alloc o).cell? ⟨g, 4, none⟩ = some (.string U.path) := fun o => (hA o).cells.2.2.2.1
  have E5 : ∀ o, (w.alloc o).cell? ⟨g, 5, none⟩ = some (.string U.fragment) := fun o => (hA o).cells.2.2.2.2.1
  have E6 : ∀ o, (w.alloc o).cell? ⟨g, 6, none⟩ = some (.string U.rawQuery) := fun o => (hA o).cells.2.2.2.2.2.1
  have E7 : ∀ o, (w.alloc o).cell? ⟨g, 7, none⟩ = some (.string U.rawPath) := fun o => (hA o).cells.2.2.2.2.2.2.1
  have E8 : ∀ o, (w.alloc o).cell? ⟨g, 8, none⟩ = some (.string U.rawFragment) := fun o => (hA o).cells.2.2.2.2.2.2.2.1
  have E9 : ∀ o, (w.alloc o).cell? ⟨g, 9, none⟩ = some (.bool U.forceQuery) := fun o => (hA o).cells.2.2.2.2.2.2.2.2.1
  have E10 : ∀ o, (w.alloc o).cell? ⟨g, 10, none⟩ = some (.bool U.omitHost) := fun o => (hA o).cells.2.2.2.2.2.2.2.2.2
  have E2 : ∀ o o', ((w.alloc o).alloc o').drew.cell? ⟨g, 2, none⟩ = some (.pointer none) := by
    intro o o'
    obtain ⟨v, hu, hb⟩ := h.out.fr ((((Fr.refl w).alloc o).alloc o').drew)
    rw [hU] at hu; rw [← show v = .pointer none from hu]; exact hb.cell 2
  clear h1 h2 h3 h4 hA d0 d1 d3 d4 d5 d6 d7 d8 d9 d10
  go_enter Tryz.func21, Tryz.ntmps21
  go_wp2
  go_region_held3 (fun w' => w'.cell? ⟨g, 0, none⟩ = some (.string U.scheme) ∧ w'.cell? ⟨g, 1, none⟩ = some (.string U.opq) ∧ w'.cell? ⟨g, 3, none⟩ = some (.string U.host) ∧ w'.cell? ⟨g, 4, none⟩ = some (.string U.path) ∧ w'.cell? ⟨g, 5, none⟩ = some (.string U.fragment) ∧ w'.cell? ⟨g, 6, none⟩ = some (.string U.rawQuery) ∧ w'.cell? ⟨g, 7, none⟩ = some (.string U.rawPath) ∧ w'.cell? ⟨g, 8, none⟩ = some (.string U.rawFragment) ∧ w'.cell? ⟨g, 9, none⟩ = some (.bool U.forceQuery) ∧ w'.cell? ⟨g, 10, none⟩ = some (.bool U.omitHost))
    (first
      | go_keep
      | skip)
    (first
      | fail)
  have HW : Fr w (((w.alloc (.cells (iurlA zeroU) 28)).alloc (.cells (iurlA (told0 U)) 28)).drew) := (((Fr.refl w).alloc _).alloc _).drew
  have HB : Hid (Blk (((w.alloc (.cells (iurlA zeroU) 28)).alloc (.cells (iurlA (told0 U)) 28)).drew) (w.heap.size + 1) 28 (iurlA (told0 U))) := Lib.hid (Blk.drew (Blk.new_at (by simp)))
  dsimp only [iurlA, zeroU, told0] at HW HB
  have HR : Hid (Blk (((w.alloc (.cells (iurlA zeroU) 28)).alloc (.cells (iurlA (told0 U)) 28)).drew) w.heap.size 28 (iurlA zeroU)) := Lib.hid (Blk.drew ((Blk.new_at rfl).alloc _))
  dsimp only [iurlA, zeroU, told0] at HR
  go_wp2_with (first
    | (go_at_call 37; (with_reducible refine (CE.out _ (Lib.hid (h.out.fr HW)) (Lib.hid (ht.out.fr HW))).mono ?_); rintro e w2 ⟨rfl, hf2⟩; have hF2 := HW.trans hf2)
    | (go_at_call 38; (with_reducible refine (CF.out _ (Lib.hid (h.out.fr hF2)) (Lib.hid (ht.out.fr hF2))).mono ?_); rintro e w3 ⟨rfl, hf3⟩; have hF3 := hF2.trans hf3; have hf23 := hf2.trans hf3; have hb3 := Lib.hid (HB.out.below hf23 (by simp)); have hr3 := Lib.hid (HR.out.below hf23 (by simp; omega)); have c14 := hb3.out.cell 14; have f14 := hb3.out.frozen 14; have c15 := hb3.out.cell 15; have f15 := hb3.out.frozen 15; have hbZ : Hid (Blk ((w3.setCell ⟨w.heap.size + 1, 14, none⟩ (.string (mk (NU.escPath (L U.path) (L U.rawPath))))).setCell ⟨w.heap.size + 1, 15, none⟩ (.string (mk (NU.escFrag (L U.fragment) (L U.rawFragment))))) (w.heap.size + 1) 28 (iurlA (told1 U))) := (Lib.hid ((hb3.out.set_ 14 _).set_ 15 _)); have hrZ : Hid (Blk ((w3.setCell ⟨w.heap.size + 1, 14, none⟩ (.string (mk (NU.escPath (L U.path) (L U.rawPath))))).setCell ⟨w.heap.size + 1, 15, none⟩ (.string (mk (NU.escFrag (L U.fragment) (L U.rawFragment))))) w.heap.size 28 (iurlA zeroU)) := (Lib.hid ((hr3.out.far (by simp) _).far (by simp) _)); clear hb3 hr3 HB HR)
    | (refine wpList_load_iu rfl _ rfl _ rfl _ _ hbZ rfl ?_)
    | (refine wpList_store_iu rfl _ _ rfl _ _ rfl rfl _ _ hrZ rfl rfl (iurlA_one _) ?_)
    | fail)
  (try simp only [Exit.inBlock, Exit.then])
  refine bodyPost_ret (ret_iu rfl _ _ _ rfl _ _ (hrZ.out.row _) rfl) rfl ?_
  refine ⟨by rw [← told1_eq U hU], ?_⟩
  exact ((hF3.setCell (p := ⟨w.heap.size + 1, 14, none⟩) (by simp) _).setCell (p := ⟨w.heap.size + 1, 15, none⟩) (by simp) _).setRow (Nat.le_refl _) _
end Go.Proofs.YtibcegbacnjmfaaGreatDoor
