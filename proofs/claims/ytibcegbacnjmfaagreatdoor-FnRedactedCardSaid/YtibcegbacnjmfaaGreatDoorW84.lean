import Derived.Test.YtibcegbacnjmfaaGreatDoorW82
import Derived.Test.YtibcegbacnjmfaaGreatDoorW48
namespace Go.Proofs.YtibcegbacnjmfaaGreatDoor
set_option linter.unusedVariables false
set_option linter.unusedSimpArgs false
open Go.RowKit

/-- No field that the laws use is great. -/
def FitsU (u : IUrl) : Prop := u.username.size ≤ 2147483647 ∧ u.password.size ≤ 2147483647 ∧ u.path.size ≤ 2147483647 ∧ u.rawQuery.size ≤ 2147483647 ∧ u.fragment.size ≤ 2147483647
set_option maxRecDepth 100000 in
set_option maxHeartbeats 8000000 in
theorem zzFits1_any (u : IUrl) (w : World) :
    Calls Tryz.prog 10 #[.agg (iurlA u)] w fun e w' => (∃ b, e = .returned (.bool b) ∧ (b = true → FitsU u)) ∧ Fr w w' := by
  obtain ⟨sc, op, hu, un, hp, pw, hst, pa, rp, fq, rq, fr, rf, oh, ep, ef⟩ := u
  unfold FitsU
  dsimp only [iurlA]
  go_enter Tryz.func10, Tryz.ntmps10
  go_wp2
  all_goals go_ret
  all_goals first
    | exact ⟨⟨false, rfl, fun h => by cases h⟩, (Fr.refl _).alloc _⟩
    | exact ⟨⟨true, rfl, fun _ => ⟨by omega, by omega, by omega, by omega, by omega⟩⟩, (Fr.refl _).alloc _⟩
/-- The user of a URL as data. -/
def usOf (hu : Bool) (un : ByteArray) (hp : Bool) (pw : ByteArray) : Option (ByteArray × ByteArray × Bool) := if hu then some (un, if hp then pw else ⟨#[]⟩, hp) else none
theorem usOf_sz (hu : Bool) (un : ByteArray) (hp : Bool) (pw : ByteArray) (h1 : un.size ≤ 2147483647) (h2 : pw.size ≤ 2147483647) : UserSz (usOf hu un hp pw) := by
  intro n p b h
  unfold usOf at h
  cases hu
  · cases h
  · cases hp
    · cases h; exact ⟨h1, by show (0 : Nat) ≤ _; omega⟩
    · cases h; exact ⟨h1, h2⟩
set_option maxRecDepth 100000 in
set_option maxHeartbeats 4000000 in
theorem implString_any (sc un pw ho pa rq fr ep ef : ByteArray) (hu hp fq : Bool) (hsc : ¬ L sc = []) (hho : ¬ L ho = []) (hpa : L pa = [] ∨ ∃ r, L pa = 47 :: r)
    (z1 : sc.size ≤ 2147483648) (z2 : ho.size ≤ 2147483648) (z3 : pa.size ≤ 2147483648) (z4 : fr.size ≤ 2147483648) (z5 : rq.size ≤ 2147483648) (z6 : un.size ≤ 2147483647) (z7 : pw.size ≤ 2147483647) (w : World) (ht : Hid (Tab w)) :
    Calls Tryz.prog 13 #[.agg #[.string sc, .string ⟨#[]⟩, .bool hu, .string un, .bool hp, .string pw, .string ho, .string pa, .string ⟨#[]⟩, .bool fq, .string rq, .string fr, .string ⟨#[]⟩, .bool false, .string ep, .string ef]] w
      fun e w' => e = .returned (.string (mk (NU.pstr (L sc) (userL (usOf hu un hp pw)) (L ho) (L pa) (L fr) (L rq) fq))) ∧ Fr w w' := by
  have C := Lib.hid (made_call sc ⟨#[]⟩ un pw ho pa ⟨#[]⟩ rq fr ⟨#[]⟩ ep ef hu hp fq false)
  have D := Lib.hid (fun (g : Nat) W (h : Hid (UrlIs W g (madeOf ⟨sc, ⟨#[]⟩, hu, un, hp, pw, ho, pa, ⟨#[]⟩, fq, rq, fr, ⟨#[]⟩, false, ep, ef⟩))) hT => urlString_any sc ho pa fr rq (usOf hu un hp pw) fq hsc hho hpa z1 z2 z3 z4 z5 (usOf_sz hu un hp pw z6 z7) g W h hT)
  obtain ⟨R, hR⟩ : ∃ R, R = mk (NU.pstr (L sc) (userL (usOf hu un hp pw)) (L ho) (L pa) (L fr) (L rq) fq) := ⟨_, rfl⟩
  rw [← hR] at D ⊢
  clear hR hsc hho hpa z1 z2 z3 z4 z5 z6 z7
  go_enter Tryz.func13, Tryz.ntmps13
  go_wp2_with fail
  refine C.out _ _ ?_
  intro g w1 hf1 hu1
  have hF : Fr w w1 := by first | exact hf1 | exact ((Fr.refl _).alloc _).trans hf1
  have ht1 := Lib.hid (ht.out.fr hF)
  replace hF := Lib.hid hF
  clear hf1
  go_wp2_with (go_at_call 25; refine (D.out g _ hu1 ht1).mono ?_; rintro e w2 ⟨rfl, hf2⟩)
  go_ret
  exact ⟨rfl, hF.out.trans hf2⟩
theorem works_str : mk (NU.pstr (L ⟨#[97]⟩) (userL (usOf false ⟨#[]⟩ false ⟨#[]⟩)) (L ⟨#[98]⟩) (L ⟨#[47, 99]⟩) (L ⟨#[]⟩) (L ⟨#[]⟩) false) = ⟨#[97, 58, 47, 47, 98, 47, 99]⟩ := by kernel_rfl
set_option maxRecDepth 100000 in
set_option maxHeartbeats 2000000 in
theorem works_any (w : World) (ht : Hid (Tab w)) :
    Calls Tryz.prog 14 #[] w fun e w' => e = .returned (.bool true) ∧ Fr w w' := by
  have C := Lib.hid implParse_AB
  dsimp only [iurlA, toldAB] at C
  have D := Lib.hid (fun W hW => implString_any ⟨#[97]⟩ ⟨#[]⟩ ⟨#[]⟩ ⟨#[98]⟩ ⟨#[47, 99]⟩ ⟨#[]⟩ ⟨#[]⟩ ⟨#[]⟩ ⟨#[]⟩ false false false (by decide) (by decide) (.inr ⟨[99], rfl⟩) (by decide) (by decide) (by decide) (by decide) (by decide) (by decide) (by decide) W hW)
  rw [works_str] at D
  go_enter Tryz.func14, Tryz.ntmps14
  go_wp2_with (first
    | (go_at_call 8; (with_reducible refine (C.out _ ht).mono ?_); rintro e w2 ⟨rfl, hf2⟩)
    | (go_at_call 13; (with_reducible refine (D.out _ (Lib.hid (ht.out.fr (hf2.alloc _)))).mono ?_); rintro e w3 ⟨rfl, hf3⟩))
  go_ret
  exact ⟨rfl, (hf2.alloc _).trans hf3⟩
end Go.Proofs.YtibcegbacnjmfaaGreatDoor
