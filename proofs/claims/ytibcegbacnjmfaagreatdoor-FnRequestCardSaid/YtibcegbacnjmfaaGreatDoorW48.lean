import Derived.Test.YtibcegbacnjmfaaGreatDoorW44
import Derived.Test.YtibcegbacnjmfaaGreatDoorW46
namespace Go.Proofs.YtibcegbacnjmfaaGreatDoor
set_option linter.unusedVariables false
set_option linter.unusedSimpArgs false
open Go.RowKit

/-- Parse answers as NU.parse at this string. -/
def ParseC (raw : ByteArray) : Prop := ∀ W, Hid (Tab W) → Calls Tryz.prog 20 #[.string raw] W fun e w' => PaPost (NU.parse (L raw)) W e w'
set_option maxRecDepth 100000 in
set_option maxHeartbeats 2000000 in
theorem implParse_no (raw : ByteArray) (hn : NU.parse (L raw) = none) (CP' : ParseC raw) (w : World) (ht : Hid (Tab w)) :
    Calls Tryz.prog 8 #[.string raw] w fun e w' => e = .returned (.tuple #[.agg (iurlA zeroU), .bool false]) ∧ Fr w w' := by
  have CP := Lib.hid CP'
  unfold ParseC at CP
  rw [hn] at CP
  clear hn CP'
  have B0 : Hid (Blk (w.alloc (.cells (iurlA zeroU) 28)) w.heap.size 28 (iurlA zeroU)) := Lib.hid (Blk.new_at rfl)
  have HW : Fr w (w.alloc (.cells (iurlA zeroU) 28)) := (Fr.refl w).alloc _
  dsimp only [iurlA, zeroU] at B0 HW
  go_enter Tryz.func8, Tryz.ntmps8
  go_wp2_with (first
    | (go_at_call 20; (with_reducible refine (CP.out _ (Lib.hid (ht.out.fr HW))).mono ?_); rintro e w2 ⟨hf2, v, hv, rfl⟩; obtain ⟨tt, xx, rfl⟩ := hv; have hF2 := HW.trans hf2; have hb2 := Lib.hid (B0.out.below hf2 (by simp)))
    | (refine wpList_store_iu rfl _ _ rfl _ _ rfl rfl _ _ hb2 rfl rfl (iurlA_one zeroU) ?_)
    | fail)
  (try simp only [Exit.inBlock, Exit.then])
  refine bodyPost_ret (ret_iu2 rfl _ _ _ rfl _ _ (hb2.out.row _) rfl) rfl ?_
  exact ⟨rfl, hF2.setRow (Nat.le_refl _) _⟩
/-- told answers as toldOf at this URL. -/
def ToldC (U : UrlR) : Prop := ∀ g W, Hid (UrlIs W g U) → Hid (Tab W) → Calls Tryz.prog 21 #[.pointer (some ⟨g, 0, none⟩)] W fun e w' => e = .returned (.agg (iurlA (toldOf U))) ∧ Fr W w'
theorem toldC_none (raw : ByteArray) (u : NU.PU) (hs : raw.size ≤ 137438953472) (hn : NU.parse (L raw) = some u) (hU : u.user = none) : ToldC (urlBA u) := by
  intro g W hu hW
  have hz := NU.parse_sz hn
  rw [L_length] at hz
  refine told_none g (urlBA u) (by show userBA u.user = none; rw [hU]; rfl) ?_ ?_ ?_ ?_ W hu hW
  · show (mk u.path).size ≤ _; rw [mk_size]; omega
  · show (mk u.rawpath).size ≤ _; rw [mk_size]; omega
  · show (mk u.frag).size ≤ _; rw [mk_size]; omega
  · show (mk u.rawfrag).size ≤ _; rw [mk_size]; omega
set_option maxRecDepth 100000 in
set_option maxHeartbeats 2000000 in
theorem implParse_yes (raw : ByteArray) (u : NU.PU) (hn : NU.parse (L raw) = some u) (CP' : ParseC raw) (CT' : ToldC (urlBA u)) (w : World) (ht : Hid (Tab w)) :
    Calls Tryz.prog 8 #[.string raw] w fun e w' => e = .returned (.tuple #[.agg (iurlA (toldOf (urlBA u))), .bool true]) ∧ Fr w w' := by
  have CP := Lib.hid CP'
  have CT := Lib.hid CT'
  unfold ParseC at CP
  unfold ToldC at CT
  rw [hn] at CP
  obtain ⟨T, hT⟩ : ∃ T, T = toldOf (urlBA u) := ⟨_, rfl⟩
  rw [← hT] at CT ⊢
  clear hn CP' CT' hT
  have B0 : Hid (Blk (w.alloc (.cells (iurlA zeroU) 28)) w.heap.size 28 (iurlA zeroU)) := Lib.hid (Blk.new_at rfl)
  have HW : Fr w (w.alloc (.cells (iurlA zeroU) 28)) := (Fr.refl w).alloc _
  dsimp only [iurlA, zeroU] at B0 HW
  go_enter Tryz.func8, Tryz.ntmps8
  go_wp2_with (first
    | (go_at_call 20; (with_reducible refine (CP.out _ (Lib.hid (ht.out.fr HW))).mono ?_); rintro e w2 ⟨hf2, g, rfl, hg, hu⟩; replace hu := Lib.hid hu; have hF2 := HW.trans hf2; have hb2 := Lib.hid (B0.out.below hf2 (by simp)))
    | (go_at_call 21; (with_reducible refine (CT.out _ _ hu (Lib.hid (ht.out.fr hF2))).mono ?_); rintro e w3 ⟨rfl, hf3⟩; have hF3 := hF2.trans hf3; have hb3 := Lib.hid (hb2.out.below hf3 hb2.out.lt))
    | (refine wpList_store_iu rfl _ _ rfl _ _ rfl rfl _ _ hb3 rfl rfl (iurlA_one _) ?_)
    | fail)
  (try simp only [Exit.inBlock, Exit.then])
  refine bodyPost_ret (ret_iu2 rfl _ _ _ rfl _ _ (hb3.out.row _) rfl) rfl ?_
  exact ⟨rfl, hF3.setRow (Nat.le_refl _) _⟩

/-- One URL is parsed. -/
def rawAB : ByteArray := ⟨#[97, 58, 47, 47, 98, 47, 99]⟩
def toldAB : IUrl := ⟨⟨#[97]⟩, ⟨#[]⟩, false, ⟨#[]⟩, false, ⟨#[]⟩, ⟨#[98]⟩, ⟨#[47, 99]⟩, ⟨#[]⟩, false, ⟨#[]⟩, ⟨#[]⟩, ⟨#[]⟩, false, ⟨#[47, 99]⟩, ⟨#[]⟩⟩
theorem parse_AB : NU.parse (L rawAB) = some { scheme := [97], host := [98], path := [47, 99] } := by kernel_rfl
theorem parseC_AB : ParseC rawAB := by
  intro W hW
  refine urlParse_plain rawAB (by decide) ?_ W hW
  intro _
  have e : hostPart (NU.authOf (NU.pRest (NU.gsR (NU.cutB [35] (L rawAB))))) = [98] := by kernel_rfl
  rw [e]; decide
theorem implParse_AB (W : World) (hW : Hid (Tab W)) :
    Calls Tryz.prog 8 #[.string ⟨#[97, 58, 47, 47, 98, 47, 99]⟩] W fun e w' => e = .returned (.tuple #[.agg (iurlA toldAB), .bool true]) ∧ Fr W w' := by
  have h := implParse_yes rawAB _ parse_AB parseC_AB (toldC_none rawAB _ (by decide) parse_AB rfl) W hW
  have e : toldOf (urlBA { scheme := [97], host := [98], path := [47, 99] }) = toldAB := by kernel_rfl
  rw [e] at h
  exact h
set_option maxRecDepth 100000 in
set_option maxHeartbeats 2000000 in
theorem parses_any (w : World) (ht : Hid (Tab w)) :
    Calls Tryz.prog 7 #[] w fun e w' => e = .returned (.bool true) ∧ Fr w w' := by
  have C := Lib.hid implParse_AB
  dsimp only [iurlA, toldAB] at C
  go_enter Tryz.func7, Tryz.ntmps7
  go_wp2_with (go_at_call 8; (with_reducible refine (C.out _ ht).mono ?_); rintro e w2 ⟨rfl, hf2⟩)
  go_ret
  exact ⟨rfl, hf2.alloc _⟩
end Go.Proofs.YtibcegbacnjmfaaGreatDoor
