import Derived.Test.YtibcegbacnjmfaaDoorW48
import Derived.Test.YtibcegbacnjmfaaDoorW22
import Derived.Test.YtibcegbacnjmfaaDoorW33
namespace Go.Proofs.YtibcegbacnjmfaaDoor
set_option linter.unusedVariables false
set_option linter.unusedSimpArgs false
open Go.RowKit

/-- impl.Parse: whether there was no error. -/
def ImplOk (s : ByteArray) (ok : Bool) : Prop := ∀ W, Hid (Tab W) → Calls Tryd.prog 9 #[.string s] W fun e w' => (∃ u : IUrl, e = .returned (.tuple #[.agg (iurlA u), .bool ok])) ∧ Fr W w'
theorem implOk_of (s : ByteArray) (hs : s.size ≤ 137438953472) (CP : ParseC s) (hU : ∀ u, NU.parse (L s) = some u → u.user = none) : ImplOk s (NU.parse (L s)).isSome := by
  intro W hW
  cases hn : NU.parse (L s) with
  | none => exact (implParse_no s hn CP W hW).mono (fun e w' h => ⟨⟨zeroU, h.1⟩, h.2⟩)
  | some u => exact (implParse_yes s u hn CP (toldC_none s u hs hn (hU u hn)) W hW).mono (fun e w' h => ⟨⟨_, h.1⟩, h.2⟩)
theorem badP_ok (a b : List UInt8) (s : ByteArray) (hs : s.size ≤ 137438953472) (hl : L s = NU.httpA ++ NU.bp a b) : ImplOk s (NU.dec false (NU.bp a b)).isSome ∧ (NU.dec false (L s)).isSome = (NU.dec false (NU.bp a b)).isSome := by
  have h := NU.bad_path a b
  rw [← hl] at h
  refine ⟨?_, h.2⟩
  have e : (NU.parse (L s)).isSome = (NU.dec false (NU.bp a b)).isSome := by rw [h.1]; cases NU.dec false (NU.bp a b) <;> rfl
  rw [← e]
  refine implOk_of s hs (fun W hW => urlParse_plain s hs ?_ W hW) ?_
  · intro _
    have : hostPart (NU.authOf (NU.pRest (NU.gsR (NU.cutB [35] (L s))))) = [97] := by
      rw [hl, (NU.cutB_none 35 _ (NU.bp_no35 a b)).1, NU.auth_elem _ (NU.bp_ok a b)]; rfl
    rw [this]; decide
  · intro u hu
    rw [h.1] at hu
    obtain ⟨x, _, rfl⟩ := Option.map_eq_some_iff.1 hu
    rfl
theorem badF_ok (a b : List UInt8) (s : ByteArray) (hs : s.size ≤ 137438953472) (hl : L s = NU.httpA ++ 35 :: NU.bp a b) : ImplOk s (NU.dec false (NU.bp a b)).isSome ∧ (NU.dec false (L s)).isSome = (NU.dec false (NU.bp a b)).isSome := by
  have h := NU.bad_frag a b
  rw [← hl] at h
  refine ⟨?_, h.2⟩
  have e : (NU.parse (L s)).isSome = (NU.dec false (NU.bp a b)).isSome := by rw [h.1]; cases NU.dec false (NU.bp a b) <;> rfl
  rw [← e]
  refine implOk_of s hs (fun W hW => urlParse_plain s hs ?_ W hW) ?_
  · intro _
    have : hostPart (NU.authOf (NU.pRest (NU.gsR (NU.cutB [35] (L s))))) = [97] := by
      rw [hl, (NU.cutB_some 35 NU.httpA _ (by decide)).1]; decide +kernel
    rw [this]; decide
  · intro u hu
    rw [h.1] at hu
    obtain ⟨x, _, rfl⟩ := Option.map_eq_some_iff.1 hu
    rfl
theorem elem_sz (s : ByteArray) (h : s.size ≤ 2147483647) : (mk (NU.elem (L s))).size ≤ 6442450941 := by
  rw [mk_size]; have := NU.elem_len (L s); rw [L_length] at this; omega
set_option maxRecDepth 100000 in
set_option maxHeartbeats 4000000 in
theorem FnBadPercent_any (a b : ByteArray) (f : Bool) (w : World) (ht : Tab w) :
    Calls Tryd.prog 3 #[.string a, .string b, .bool f] w fun e w' => e = .returned (.bool true) ∧ Fr w w' := by
  replace ht := Lib.hid ht
  have CP := Lib.hid parses_any
  by_cases hb : a.size ≤ 2147483647
  · by_cases hb2 : b.size ≤ 2147483647
    · have CA := Lib.hid (fun W => Element_any a W (by omega))
      have CB := Lib.hid (fun W => Element_any b W (by omega))
      have za := elem_sz a hb
      have zb := elem_sz b hb2
      obtain ⟨ea, hea⟩ : ∃ ea, ea = mk (NU.elem (L a)) := ⟨_, rfl⟩
      obtain ⟨eb, heb⟩ : ∃ eb, eb = mk (NU.elem (L b)) := ⟨_, rfl⟩
      rw [← hea] at CA za
      rw [← heb] at CB zb
      have hla : L ea = NU.elem (L a) := by rw [hea, L_mk]
      have hlb : L eb = NU.elem (L b) := by rw [heb, L_mk]
      cases f
      · obtain ⟨s, hs⟩ : ∃ s, s = (⟨#[104, 116, 116, 112, 58, 47, 47, 97, 47]⟩ : ByteArray) ++ ea ++ ⟨#[37]⟩ ++ eb := ⟨_, rfl⟩
        have hsl : L s = NU.httpA ++ NU.bp (L a) (L b) := by rw [hs]; simp [L, NU.bp, NU.httpA]; rw [show ea.data.toList = L ea from rfl, show eb.data.toList = L eb from rfl, hla, hlb]
        have hsz : s.size ≤ 137438953472 := by
          rw [hs]; simp only [ByteArray.size_append]; show 9 + ea.size + 1 + eb.size ≤ _; omega
        obtain ⟨CI, hd⟩ := badP_ok (L a) (L b) s hsz hsl
        have CD := Lib.hid (fun W => Decode_any s W (by omega))
        rw [hd] at CD
        obtain ⟨bb, hbb⟩ : ∃ bb, bb = (NU.dec false (NU.bp (L a) (L b))).isSome := ⟨_, rfl⟩
        rw [← hbb] at CD CI
        unfold ImplOk at CI
        replace CI := Lib.hid CI
        dsimp only [iurlA] at CI
        rw [hs] at CD CI
        clear hs hsl hsz hd hbb hea heb hla hlb
        go_enter Tryd.func3, Tryd.ntmps3
        go_wp2_with (first
          | (go_at_call 7; (with_reducible refine (CA.out _).mono ?_); rintro e w1 ⟨rfl, hf1⟩)
          | (go_at_call 7; (with_reducible refine (CB.out _).mono ?_); rintro e w2 ⟨rfl, hf2⟩; have hF2 := hf1.trans hf2)
          | (go_at_call 8; (with_reducible refine (CD.out _).mono ?_); rintro e w3 ⟨rfl, hf3⟩; have hF3 := hF2.trans hf3)
          | (go_at_call 9; (with_reducible refine (CI.out _ (Lib.hid (ht.out.fr hF3))).mono ?_); rintro e w4 ⟨⟨u, rfl⟩, hf4⟩; have hF4 := (hF3.trans hf4))
          | (go_at_call 10; (with_reducible refine (CP.out _ (Lib.hid (ht.out.fr (hF4.alloc _)))).mono ?_); rintro e w5 ⟨rfl, hf5⟩))
        go_ret
        exact ⟨ret_bool (by simp), (hF4.alloc _).trans hf5⟩
      · obtain ⟨s, hs⟩ : ∃ s, s = (⟨#[104, 116, 116, 112, 58, 47, 47, 97, 47, 35]⟩ : ByteArray) ++ ea ++ ⟨#[37]⟩ ++ eb := ⟨_, rfl⟩
        have hsl : L s = NU.httpA ++ 35 :: NU.bp (L a) (L b) := by rw [hs]; simp [L, NU.bp, NU.httpA]; rw [show ea.data.toList = L ea from rfl, show eb.data.toList = L eb from rfl, hla, hlb]
        have hsz : s.size ≤ 137438953472 := by
          rw [hs]; simp only [ByteArray.size_append]; show 10 + ea.size + 1 + eb.size ≤ _; omega
        obtain ⟨CI, hd⟩ := badF_ok (L a) (L b) s hsz hsl
        have CD := Lib.hid (fun W => Decode_any s W (by omega))
        rw [hd] at CD
        obtain ⟨bb, hbb⟩ : ∃ bb, bb = (NU.dec false (NU.bp (L a) (L b))).isSome := ⟨_, rfl⟩
        rw [← hbb] at CD CI
        unfold ImplOk at CI
        replace CI := Lib.hid CI
        dsimp only [iurlA] at CI
        rw [hs] at CD CI
        clear hs hsl hsz hd hbb hea heb hla hlb
        go_enter Tryd.func3, Tryd.ntmps3
        go_upto_if 27 with (first
          | (go_at_call 7; (with_reducible refine (CA.out _).mono ?_); rintro e w1 ⟨rfl, hf1⟩)
          | (go_at_call 7; (with_reducible refine (CB.out _).mono ?_); rintro e w2 ⟨rfl, hf2⟩; have hF2 := hf1.trans hf2))
        clear hf1 hf2
        go_wp2_with (first
          | (go_at_call 7; (with_reducible refine (CA.out _).mono ?_); rintro e w1' ⟨rfl, hf1'⟩; have hF1' := hF2.trans hf1')
          | (go_at_call 7; (with_reducible refine (CB.out _).mono ?_); rintro e w2' ⟨rfl, hf2'⟩; have hF2' := hF1'.trans hf2')
          | (go_at_call 8; (with_reducible refine (CD.out _).mono ?_); rintro e w3 ⟨rfl, hf3⟩; have hF3 := hF2'.trans hf3)
          | (go_at_call 9; (with_reducible refine (CI.out _ (Lib.hid (ht.out.fr hF3))).mono ?_); rintro e w4 ⟨⟨u, rfl⟩, hf4⟩; have hF4 := (hF3.trans hf4))
          | (go_at_call 10; (with_reducible refine (CP.out _ (Lib.hid (ht.out.fr (hF4.alloc _)))).mono ?_); rintro e w5 ⟨rfl, hf5⟩))
        go_ret
        exact ⟨ret_bool (by simp), (hF4.alloc _).trans hf5⟩
    · have hb2 : 2147483647 < (b.size : Int) := by omega
      go_enter Tryd.func3, Tryd.ntmps3
      go_wp2
      go_ret
      exact ⟨rfl, Fr.refl _⟩
  · have hb : 2147483647 < (a.size : Int) := by omega
    go_enter Tryd.func3, Tryd.ntmps3
    go_wp2
    go_ret
    exact ⟨rfl, Fr.refl _⟩
end Go.Proofs.YtibcegbacnjmfaaDoor
