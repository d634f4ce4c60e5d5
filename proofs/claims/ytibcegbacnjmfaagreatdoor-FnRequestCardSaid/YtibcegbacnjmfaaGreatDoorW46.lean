import Derived.Test.YtibcegbacnjmfaaGreatDoorW43
import Derived.Test.YtibcegbacnjmfaaGreatDoorP
namespace Go.Proofs.YtibcegbacnjmfaaGreatDoor
set_option linter.unusedVariables false
set_option linter.unusedSimpArgs false
open Go.RowKit

/-- What of an authority stands behind its last at sign. -/
def hostPart (a : List UInt8) : List UInt8 := a.drop (NU.lastIdx 64 a + 1).toNat
theorem hostPart_len (a : List UInt8) : (hostPart a).length ≤ a.length := by unfold hostPart; simp only [List.length_drop]; omega
/-- parseHost answers as NU.parseHost at the host of this reference. -/
def HostC (raw : List UInt8) (via : Bool) : Prop :=
  hasAuth raw via = true → ∀ (sc ho : ByteArray), L sc = (pu1 raw).scheme → L ho = hostPart (NU.authOf (NU.pRest (NU.gsR raw))) → ∀ W, Hid (Tab W) →
    Calls Tryz.prog 71 #[.string sc, .string ho] W fun e w' => PhPost (NU.parseHost (L sc) (L ho)) e ∧ Fr W w'
theorem authOf_len (r : List UInt8) : (NU.authOf r).length ≤ r.length := by
  unfold NU.authOf
  have := NU.cutB_len [47] (r.drop 2)
  simp only [List.length_drop] at this; omega
theorem pRestR_len (raw : ByteArray) : (NU.pRest (NU.gsR (L raw))).length ≤ raw.size := by
  have h1 := NU.pRest_len (NU.gsR (L raw))
  have h2 := NU.gsR_len (L raw)
  rw [L_length] at h2; omega
theorem parseAuth_host (raw : ByteArray) (via : Bool) (hs : raw.size ≤ 137438953472) (CH : HostC (L raw) via) (hA : hasAuth (L raw) via = true)
    (sc a : ByteArray) (hsc : L sc = (pu1 (L raw)).scheme) (ha : L a = NU.authOf (NU.pRest (NU.gsR (L raw)))) (W : World) (hW : Hid (Tab W)) :
    Calls Tryz.prog 58 #[.string sc, .string a] W fun e w' => AuPost (NU.parseAuth (L sc) (L a)) W e w' := by
  have haz : a.size ≤ 137438953472 := by
    have h1 := authOf_len (NU.pRest (NU.gsR (L raw)))
    have h2 := pRestR_len raw
    rw [← ha, L_length] at h1; omega
  by_cases hl : NU.lastIdx 64 (L a) < 0
  · refine parseAuth_nouser sc a (by omega) hl (Lib.hid ?_) W hW
    intro W hW
    refine CH hA sc a hsc ?_ W hW
    have hlo := NU.lastIdx_lo 64 (L a)
    unfold hostPart
    rw [← ha, show NU.lastIdx 64 (L a) + 1 = 0 by omega]; rfl
  · obtain ⟨i, hi⟩ := Int.eq_ofNat_of_zero_le (show 0 ≤ NU.lastIdx 64 (L a) by omega)
    have he : L (a.extract (i + 1) a.size) = (L a).drop (i + 1) := by rw [ext_from, L_mk]
    refine parseAuth_user sc a i (by omega) hi (Lib.hid ?_) W hW
    intro W hW
    rw [← he]
    refine CH hA sc _ hsc ?_ W hW
    unfold hostPart
    rw [← ha, hi, he, show ((i : Int) + 1).toNat = i + 1 by omega]
theorem parse_host (raw : ByteArray) (via : Bool) (hs : raw.size ≤ 137438953472) (CH : HostC (L raw) via) (w : World) (ht : Hid (Tab w)) :
    Calls Tryz.prog 33 #[.string raw, .bool via] w fun e w' => PaPost (NU.parse0 (L raw) via) w e w' := by
  by_cases h1 : NU.ctl (L raw) = true
  · exact parse_ctl raw via hs h1 w
  · have h1 : NU.ctl (L raw) = false := by simpa using h1
    by_cases h2 : L raw = [] ∧ via = true
    · obtain ⟨h2, rfl⟩ := h2
      exact parse_empty raw h2 w
    · by_cases h3 : L raw = [42]
      · exact parse_star raw via h3 w
      · exact parse_rest raw via hs h1 h2 h3 w ht (Lib.hid fun hA sc a hsc ha W hW => parseAuth_host raw via hs CH hA sc a hsc ha W hW)
/-- A host without brackets and percent signs. -/
theorem hostC_plain (raw : ByteArray) (via : Bool) (hs : raw.size ≤ 137438953472)
    (h : hasAuth (L raw) via = true → (91 : UInt8) ∉ hostPart (NU.authOf (NU.pRest (NU.gsR (L raw)))) ∧ (37 : UInt8) ∉ hostPart (NU.authOf (NU.pRest (NU.gsR (L raw))))) : HostC (L raw) via := by
  intro hA sc ho hsc hho W hW
  obtain ⟨h91, h37⟩ := h hA
  rw [← hho] at h91 h37
  have hz : ho.size ≤ 137438953472 := by
    have h1 := authOf_len (NU.pRest (NU.gsR (L raw)))
    have h2 := pRestR_len raw
    have h3 := hostPart_len (NU.authOf (NU.pRest (NU.gsR (L raw))))
    rw [← hho, L_length] at h3; omega
  have hscz : sc.size ≤ 137438953472 := by
    have h1 := NU.gsS_len (L raw)
    have h2 := NU.lower_len (NU.gsS (L raw))
    have h3 : (L sc).length = _ := congrArg List.length hsc
    rw [L_length] at h1 h3
    have h4 : (pu1 (L raw)).scheme = NU.lower (NU.gsS (L raw)) := rfl
    rw [h4] at h3; omega
  refine parseHost_plain sc ho (by omega) (by omega) ?_ (Lib.hid ?_) W hW
  · rw [NU.lastIdx_nomem 91 (L ho) h91]; omega
  · intro k hk
    intro e
    apply h37
    rw [← e]
    have h1 : ho[k] = (L ho)[k]'(by rw [L_length]; exact hk) := rfl
    rw [h1]; exact List.getElem_mem _
/-- Parse, where parseHost answers. -/
theorem urlParse_host (raw : ByteArray) (hs : raw.size ≤ 137438953472) (CH : HostC (NU.cutB [35] (L raw)) false) (w : World) (ht : Hid (Tab w)) :
    Calls Tryz.prog 20 #[.string raw] w fun e w' => PaPost (NU.parse (L raw)) w e w' := by
  refine urlParse_any raw hs (Lib.hid ?_) w ht
  intro b hb W hW
  have hbz : b.size ≤ 137438953472 := by
    have h1 := NU.cutB_len [35] (L raw)
    rw [← hb, L_length, L_length] at h1; omega
  rw [← hb] at CH
  exact parse_host b false hbz CH W hW
/-- .. at a host without brackets and percent signs. -/
theorem urlParse_plain (raw : ByteArray) (hs : raw.size ≤ 137438953472)
    (h : hasAuth (NU.cutB [35] (L raw)) false = true → (91 : UInt8) ∉ hostPart (NU.authOf (NU.pRest (NU.gsR (NU.cutB [35] (L raw))))) ∧ (37 : UInt8) ∉ hostPart (NU.authOf (NU.pRest (NU.gsR (NU.cutB [35] (L raw)))))) (w : World) (ht : Hid (Tab w)) :
    Calls Tryz.prog 20 #[.string raw] w fun e w' => PaPost (NU.parse (L raw)) w e w' := by
  obtain ⟨b, hb⟩ : ∃ b, b = mk (NU.cutB [35] (L raw)) := ⟨_, rfl⟩
  have hbl : L b = NU.cutB [35] (L raw) := by rw [hb, L_mk]
  have hbz : b.size ≤ 137438953472 := by
    have h1 := NU.cutB_len [35] (L raw)
    rw [← hbl, L_length, L_length] at h1; omega
  refine urlParse_host raw hs ?_ w ht
  rw [← hbl] at h ⊢
  exact hostC_plain b false hbz h
/-- .. where a control character stands ahead of the fragment. -/
theorem urlParse_ctl (raw : ByteArray) (hs : raw.size ≤ 137438953472) (h : NU.ctl (NU.cutB [35] (L raw)) = true) (w : World) (ht : Hid (Tab w)) :
    Calls Tryz.prog 20 #[.string raw] w fun e w' => PaPost (NU.parse (L raw)) w e w' := by
  refine urlParse_any raw hs (Lib.hid ?_) w ht
  intro b hb W hW
  have hbz : b.size ≤ 137438953472 := by
    have h1 := NU.cutB_len [35] (L raw)
    rw [← hb, L_length, L_length] at h1; omega
  rw [← hb] at h
  exact parse_ctl b false hbz h W
end Go.Proofs.YtibcegbacnjmfaaGreatDoor
