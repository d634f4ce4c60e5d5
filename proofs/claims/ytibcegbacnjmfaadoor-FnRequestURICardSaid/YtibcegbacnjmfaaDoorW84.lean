import Derived.Test.YtibcegbacnjmfaaDoorW82
import Derived.Test.YtibcegbacnjmfaaDoorW48
import Derived.Test.YtibcegbacnjmfaaDoorW83
namespace Go.Proofs.YtibcegbacnjmfaaDoor
set_option linter.unusedVariables false
set_option linter.unusedSimpArgs false
open Go.RowKit

/-- No field that the laws use is great. -/
def FitsU (u : IUrl) : Prop := u.username.size ≤ 2147483647 ∧ u.password.size ≤ 2147483647 ∧ u.path.size ≤ 2147483647 ∧ u.rawQuery.size ≤ 2147483647 ∧ u.fragment.size ≤ 2147483647
set_option maxRecDepth 100000 in
set_option maxHeartbeats 8000000 in
theorem zzFits1_any (u : IUrl) (w : World) :
    Calls Tryd.prog 12 #[.agg (iurlA u)] w fun e w' => (∃ b, e = .returned (.bool b) ∧ (b = true → FitsU u)) ∧ Fr w w' := by
  obtain ⟨sc, op, hu, un, hp, pw, hst, pa, rp, fq, rq, fr, rf, oh, ep, ef⟩ := u
  unfold FitsU
  dsimp only [iurlA]
  go_enter Tryd.func12, Tryd.ntmps12
  go_wp2
  all_goals go_ret
  all_goals first
    | exact ⟨⟨false, rfl, fun h => by cases h⟩, (Fr.refl _).alloc _⟩
    | exact ⟨⟨true, rfl, fun _ => ⟨by omega, by omega, by omega, by omega, by omega⟩⟩, (Fr.refl _).alloc _⟩
/-- The user of a URL as data. -/
def usOf (hu : Bool) (un : ByteArray) (hp : Bool) (pw : ByteArray) : Option (ByteArray × ByteArray × Bool) := if hu then some (un, if hp then pw else ⟨#[]⟩, hp) else none
theorem usOf_sz (hu : Bool) (un : ByteArray) (hp : Bool) (pw : ByteArray) (h1 : un.size ≤ 2147483647) (h2 : pw.size ≤ 2147483647) : UserSz (usOf hu un hp pw) := by
  intro n p b h
  unfold usOf at h
  cases hu
  · cases h
  · cases hp
    · cases h; exact ⟨h1, by show (0 : Nat) ≤ _; omega⟩
    · cases h; exact ⟨h1, h2⟩
set_option maxRecDepth 100000 in
set_option maxHeartbeats 4000000 in
theorem implString_any (sc un pw ho pa rq fr ep ef : ByteArray) (hu hp fq : Bool) (hsc : ¬ L sc = []) (hho : ¬ L ho = []) (hpa : L pa = [] ∨ ∃ r, L pa = 47 :: r)
    (z1 : sc.size ≤ 2147483648) (z2 : ho.size ≤ 2147483648) (z3 : pa.size ≤ 2147483648) (z4 : fr.size ≤ 2147483648) (z5 : rq.size ≤ 2147483648) (z6 : un.size ≤ 2147483647) (z7 : pw.size ≤ 2147483647) (w : World) (ht : Hid (Tab w)) :
    Calls Tryd.prog 14 #[.agg #[.string sc, .string ⟨#[]⟩, .bool hu, .string un, .bool hp, .string pw, .string ho, .string pa, .string ⟨#[]⟩, .bool fq, .string rq, .string fr, .string ⟨#[]⟩, .bool false, .string ep, .string ef]] w
      fun e w' => e = .returned (.string (mk (NU.pstr (L sc) (userL (usOf hu un hp pw)) (L ho) (L pa) (L fr) (L rq) fq))) ∧ Fr w w' := by
  have C := Lib.hid (made_call sc ⟨#[]⟩ un pw ho pa ⟨#[]⟩ rq fr ⟨#[]⟩ ep ef hu hp fq false)
  have D := Lib.hid (fun (g : Nat) W (h : Hid (UrlIs W g (madeOf ⟨sc, ⟨#[]⟩, hu, un, hp, pw, ho, pa, ⟨#[]⟩, fq, rq, fr, ⟨#[]⟩, false, ep, ef⟩))) hT => urlString_any sc ho pa fr rq (usOf hu un hp pw) fq hsc hho hpa z1 z2 z3 z4 z5 (usOf_sz hu un hp pw z6 z7) g W h hT)
  obtain ⟨R, hR⟩ : ∃ R, R = mk (NU.pstr (L sc) (userL (usOf hu un hp pw)) (L ho) (L pa) (L fr) (L rq) fq) := ⟨_, rfl⟩
  rw [← hR] at D ⊢
  clear hR hsc hho hpa z1 z2 z3 z4 z5 z6 z7
  go_enter Tryd.func14, Tryd.ntmps14
  go_wp2_with fail
  refine C.out _ _ ?_
  intro g w1 hf1 hu1
  have hF : Fr w w1 := by first | exact hf1 | exact ((Fr.refl _).alloc _).trans hf1
  have ht1 := Lib.hid (ht.out.fr hF)
  replace hF := Lib.hid hF
  clear hf1
  go_wp2_with (go_at_call 25; refine (D.out g _ hu1 ht1).mono ?_; rintro e w2 ⟨rfl, hf2⟩)
  go_ret
  exact ⟨rfl, hF.out.trans hf2⟩
theorem works_str : mk (NU.pstr (L ⟨#[97]⟩) (userL (usOf false ⟨#[]⟩ false ⟨#[]⟩)) (L ⟨#[98]⟩) (L ⟨#[47, 99]⟩) (L ⟨#[]⟩) (L ⟨#[]⟩) false) = ⟨#[97, 58, 47, 47, 98, 47, 99]⟩ := by kernel_rfl
end Go.Proofs.YtibcegbacnjmfaaDoor
namespace Go.Proofs.YtibcegbacnjmfaaDoor
set_option linter.unusedVariables false
set_option linter.unusedSimpArgs false
open Go.RowKit

section
variable {ops : Array Oper} {rest : List Oper} {o : Oper} {a : Act} {w : World} {Q : Exit → Act → World → Prop}
/-- A URL is loaded whole. -/
theorem wpList_load_u (hgd : o.guard = none) (x : Operand) (ho : o.op = .load 65 x) (g : Nat) (hx : a.eval x = .pointer (some ⟨g, 0, none⟩)) (t : TypeId) (cs : Array Value) (hb : Hid (Blk w g t cs)) (hs : cs.size = 11)
    (h : wpList Tryd.prog ops Q rest (a.put o.dst (.agg cs)) w) : wpList Tryd.prog ops Q (o :: rest) a w :=
  wpList_load_row hgd _ x ho g hx t cs (0, 0) _ hb.out Tryd.underlying65 rfl (by rw [url_info, hs]) h
end
def xxxxx : ByteArray := ⟨#[120, 120, 120, 120, 120]⟩
/-- A password is replaced. -/
def redU : Option (ByteArray × ByteArray × Bool) → Option (ByteArray × ByteArray × Bool)
  | some (n, _, true) => some (n, xxxxx, true)
  | u => u
theorem redU_sz (us : Option (ByteArray × ByteArray × Bool)) (h : UserSz us) : UserSz (redU us) := by
  match us, h with
  | none, h => exact h
  | some (n, p, false), h => exact h
  | some (n, p, true), h =>
    intro n' p' b' e
    cases e
    exact ⟨(h n p true rfl).1, by show (5 : Nat) ≤ _; omega⟩
set_option maxHeartbeats 1000000 in
theorem userPassword_any (n p : ByteArray) (w : World) :
    Calls Tryd.prog 37 #[.string n, .string p] w fun e w' => e = .returned (.pointer (some ⟨w.heap.size, 0, none⟩)) ∧ w' = w.alloc (.cells #[.string n, .string p, .bool true] 87) := by
  go_enter Tryd.func37, Tryd.ntmps37
  go_wp2
  go_ret
  exact ⟨rfl, rfl⟩
theorem red_url {W : World} {b k : Nat} {sc ho pa fr rq n p : ByteArray} {fq : Bool} (h : Blk W b 65 (urlA (plainR sc (some (n, p, true)) ho pa fr rq fq) (.pointer (some ⟨k, 0, none⟩)))) :
    UrlIs ((W.alloc (.cells #[.string n, .string ⟨#[120, 120, 120, 120, 120]⟩, .bool true] 87)).setCell ⟨b, 2, none⟩ (.pointer (some ⟨W.heap.size, 0, none⟩))) b (plainR sc (redU (some (n, p, true))) ho pa fr rq fq) :=
  ⟨.pointer (some ⟨W.heap.size, 0, none⟩), ⟨W.heap.size, rfl, (Blk.new _ _ _).far (by have := h.lt; show W.heap.size ≠ b; omega) _⟩, (h.alloc _).set_ 2 _⟩
end Go.Proofs.YtibcegbacnjmfaaDoor
namespace Go.Proofs.YtibcegbacnjmfaaDoor
set_option linter.unusedVariables false
set_option linter.unusedSimpArgs false
open Go.RowKit

/-- What spec.Plain's URLs are like. -/
structure PlainF (P : IUrl) : Prop where
  opq : P.opq = ⟨#[]⟩
  rawPath : P.rawPath = ⟨#[]⟩
  rawFragment : P.rawFragment = ⟨#[]⟩
  omitHost : P.omitHost = false
  sc : ¬ L P.scheme = []
  ho : ¬ L P.host = []
  pa : L P.path = [] ∨ ∃ r, L P.path = 47 :: r
  z1 : P.scheme.size ≤ 2147483648
  z2 : P.host.size ≤ 2147483648
  z3 : P.path.size ≤ 2147483648
  z4 : P.fragment.size ≤ 2147483648
  z5 : P.rawQuery.size ≤ 2147483648
  z6 : P.username.size ≤ 2147483647
  z7 : P.password.size ≤ 2147483647
theorem schemeOf_sz (i : Nat) : (schemeOf i).size ≤ 7 ∧ ¬ L (schemeOf i) = [] := by
  match i with
  | 0 => exact ⟨by decide, by decide⟩
  | 1 => exact ⟨by decide, by decide⟩
  | 2 => exact ⟨by decide, by decide⟩
  | _ + 3 => exact ⟨by show (6 : Nat) ≤ 7; omega, fun h => by cases h⟩
theorem hostOf_sz (i : Nat) : (hostOf i).size ≤ 18 ∧ ¬ L (hostOf i) = [] := by
  match i with
  | 0 => exact ⟨by decide, by decide⟩
  | 1 => exact ⟨by decide, by decide⟩
  | 2 => exact ⟨by decide, by decide⟩
  | 3 => exact ⟨by decide, by decide⟩
  | 4 => exact ⟨by decide, by decide⟩
  | _ + 5 => exact ⟨by show (2 : Nat) ≤ 18; omega, fun h => by cases h⟩
theorem plainI_F (i j : Nat) (u : IUrl) (h : FitsU u) : PlainF (plainI i j u) := by
  obtain ⟨h1, h2, h3, h4, h5⟩ := h
  have hs := schemeOf_sz i
  have hh := hostOf_sz j
  have e0 : (⟨#[]⟩ : ByteArray).size = 0 := rfl
  refine ⟨rfl, rfl, rfl, rfl, hs.2, hh.2, ?_, by show (schemeOf i).size ≤ _; omega, by show (hostOf j).size ≤ _; omega, ?_, by show u.fragment.size ≤ _; omega, ?_, ?_, ?_⟩
  · show L (if L u.path = [] then (⟨#[]⟩ : ByteArray) else ⟨#[47]⟩ ++ u.path) = [] ∨ ∃ r, L (if L u.path = [] then (⟨#[]⟩ : ByteArray) else ⟨#[47]⟩ ++ u.path) = 47 :: r
    split
    · left; rfl
    · right; exact ⟨L u.path, by rw [L_app]; rfl⟩
  · show (if L u.path = [] then (⟨#[]⟩ : ByteArray) else ⟨#[47]⟩ ++ u.path).size ≤ _
    split
    · rw [e0]; omega
    · rw [ByteArray.size_append]; show 1 + _ ≤ _; omega
  · show (if NU.chars [58, 64, 47, 63] true (L u.rawQuery) then u.rawQuery else (⟨#[]⟩ : ByteArray)).size ≤ _
    split
    · omega
    · rw [e0]; omega
  · show (if u.hasUser then u.username else (⟨#[]⟩ : ByteArray)).size ≤ _
    split
    · omega
    · rw [e0]; omega
  · show (if u.hasUser && u.hasPassword then u.password else (⟨#[]⟩ : ByteArray)).size ≤ _
    split
    · omega
    · rw [e0]; omega
theorem red_us (hu : Bool) (un : ByteArray) (hp : Bool) (pw : ByteArray) : redU (usOf hu un hp pw) = usOf hu un hp (if hp then xxxxx else pw) := by
  cases hu <;> cases hp <;> rfl
end Go.Proofs.YtibcegbacnjmfaaDoor
