import Derived.Test.YtibcegbacnjmfaaGreatDoorW83
import Derived.Test.YtibcegbacnjmfaaGreatDoorW85
namespace Go.Proofs.YtibcegbacnjmfaaGreatDoor
set_option linter.unusedVariables false
set_option linter.unusedSimpArgs false
open Go.RowKit

set_option maxRecDepth 100000 in
set_option maxHeartbeats 4000000 in
theorem implRedacted_any (sc un pw ho pa rq fr ep ef : ByteArray) (hu hp fq : Bool) (hsc : ¬ L sc = []) (hho : ¬ L ho = []) (hpa : L pa = [] ∨ ∃ r, L pa = 47 :: r)
    (z1 : sc.size ≤ 2147483648) (z2 : ho.size ≤ 2147483648) (z3 : pa.size ≤ 2147483648) (z4 : fr.size ≤ 2147483648) (z5 : rq.size ≤ 2147483648) (z6 : un.size ≤ 2147483647) (z7 : pw.size ≤ 2147483647) (w : World) (ht : Hid (Tab w)) :
    Calls Tryz.prog 12 #[.agg #[.string sc, .string ⟨#[]⟩, .bool hu, .string un, .bool hp, .string pw, .string ho, .string pa, .string ⟨#[]⟩, .bool fq, .string rq, .string fr, .string ⟨#[]⟩, .bool false, .string ep, .string ef]] w
      fun e w' => e = .returned (.string (mk (NU.pstr (L sc) (userL (redU (usOf hu un hp pw))) (L ho) (L pa) (L fr) (L rq) fq))) ∧ Fr w w' := by
  have C := Lib.hid (made_call sc ⟨#[]⟩ un pw ho pa ⟨#[]⟩ rq fr ⟨#[]⟩ ep ef hu hp fq false)
  have D := Lib.hid (fun (g : Nat) W (h : Hid (UrlIs W g (madeOf ⟨sc, ⟨#[]⟩, hu, un, hp, pw, ho, pa, ⟨#[]⟩, fq, rq, fr, ⟨#[]⟩, false, ep, ef⟩))) hT => urlRedacted_any sc ho pa fr rq (usOf hu un hp pw) fq hsc hho hpa z1 z2 z3 z4 z5 (usOf_sz hu un hp pw z6 z7) g W h hT)
  obtain ⟨R, hR⟩ : ∃ R, R = mk (NU.pstr (L sc) (userL (redU (usOf hu un hp pw))) (L ho) (L pa) (L fr) (L rq) fq) := ⟨_, rfl⟩
  rw [← hR] at D ⊢
  clear hR hsc hho hpa z1 z2 z3 z4 z5 z6 z7
  go_enter Tryz.func12, Tryz.ntmps12
  go_wp2_with fail
  refine C.out _ _ ?_
  intro g w1 hf1 hu1
  have hF : Fr w w1 := by first | exact hf1 | exact ((Fr.refl _).alloc _).trans hf1
  have ht1 := Lib.hid (ht.out.fr hF)
  replace hF := Lib.hid hF
  clear hf1
  go_wp2_with (go_at_call 24; refine (D.out g _ hu1 ht1).mono ?_; rintro e w2 ⟨rfl, hf2⟩)
  go_ret
  exact ⟨rfl, hF.out.trans hf2⟩
/-- What spec.Plain's URLs are like. -/
structure PlainF (P : IUrl) : Prop where
  opq : P.opq = ⟨#[]⟩
  rawPath : P.rawPath = ⟨#[]⟩
  rawFragment : P.rawFragment = ⟨#[]⟩
  omitHost : P.omitHost = false
  sc : ¬ L P.scheme = []
  ho : ¬ L P.host = []
  pa : L P.path = [] ∨ ∃ r, L P.path = 47 :: r
  z1 : P.scheme.size ≤ 2147483648
  z2 : P.host.size ≤ 2147483648
  z3 : P.path.size ≤ 2147483648
  z4 : P.fragment.size ≤ 2147483648
  z5 : P.rawQuery.size ≤ 2147483648
  z6 : P.username.size ≤ 2147483647
  z7 : P.password.size ≤ 2147483647
theorem schemeOf_sz (i : Nat) : (schemeOf i).size ≤ 7 ∧ ¬ L (schemeOf i) = [] := by
  match i with
  | 0 => exact ⟨by decide, by decide⟩
  | 1 => exact ⟨by decide, by decide⟩
  | 2 => exact ⟨by decide, by decide⟩
  | _ + 3 => exact ⟨by show (6 : Nat) ≤ 7; omega, fun h => by cases h⟩
theorem hostOf_sz (i : Nat) : (hostOf i).size ≤ 18 ∧ ¬ L (hostOf i) = [] := by
  match i with
  | 0 => exact ⟨by decide, by decide⟩
  | 1 => exact ⟨by decide, by decide⟩
  | 2 => exact ⟨by decide, by decide⟩
  | 3 => exact ⟨by decide, by decide⟩
  | 4 => exact ⟨by decide, by decide⟩
  | _ + 5 => exact ⟨by show (2 : Nat) ≤ 18; omega, fun h => by cases h⟩
theorem plainI_F (i j : Nat) (u : IUrl) (h : FitsU u) : PlainF (plainI i j u) := by
  obtain ⟨h1, h2, h3, h4, h5⟩ := h
  have hs := schemeOf_sz i
  have hh := hostOf_sz j
  have e0 : (⟨#[]⟩ : ByteArray).size = 0 := rfl
  refine ⟨rfl, rfl, rfl, rfl, hs.2, hh.2, ?_, by show (schemeOf i).size ≤ _; omega, by show (hostOf j).size ≤ _; omega, ?_, by show u.fragment.size ≤ _; omega, ?_, ?_, ?_⟩
  · show L (if L u.path = [] then (⟨#[]⟩ : ByteArray) else ⟨#[47]⟩ ++ u.path) = [] ∨ ∃ r, L (if L u.path = [] then (⟨#[]⟩ : ByteArray) else ⟨#[47]⟩ ++ u.path) = 47 :: r
    split
    · left; rfl
    · right; exact ⟨L u.path, by rw [L_app]; rfl⟩
  · show (if L u.path = [] then (⟨#[]⟩ : ByteArray) else ⟨#[47]⟩ ++ u.path).size ≤ _
    split
    · rw [e0]; omega
    · rw [ByteArray.size_append]; show 1 + _ ≤ _; omega
  · show (if NU.chars [58, 64, 47, 63] true (L u.rawQuery) then u.rawQuery else (⟨#[]⟩ : ByteArray)).size ≤ _
    split
    · omega
    · rw [e0]; omega
  · show (if u.hasUser then u.username else (⟨#[]⟩ : ByteArray)).size ≤ _
    split
    · omega
    · rw [e0]; omega
  · show (if u.hasUser && u.hasPassword then u.password else (⟨#[]⟩ : ByteArray)).size ≤ _
    split
    · omega
    · rw [e0]; omega
theorem red_us (hu : Bool) (un : ByteArray) (hp : Bool) (pw : ByteArray) : redU (usOf hu un hp pw) = usOf hu un hp (if hp then xxxxx else pw) := by
  cases hu <;> cases hp <;> rfl
end Go.Proofs.YtibcegbacnjmfaaGreatDoor
