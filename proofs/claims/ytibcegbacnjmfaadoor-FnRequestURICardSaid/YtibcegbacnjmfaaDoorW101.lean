import Derived.Test.YtibcegbacnjmfaaDoorW99
import Derived.Test.YtibcegbacnjmfaaDoorW100
namespace Go.Proofs.YtibcegbacnjmfaaDoor
set_option linter.unusedVariables false
set_option linter.unusedSimpArgs false
open Go.RowKit

set_option maxRecDepth 100000 in
set_option maxHeartbeats 16000000 in
theorem FnRequestURI_any (x y : Int) (u : IUrl) (w : World) (ht : Tab w) :
    Calls Tryd.prog 6 #[.int .i64 x, .int .i64 y, .agg (iurlA u)] w fun e w' => e = .returned (.bool true) ∧ Fr w w' := by
  replace ht := Lib.hid ht
  have CZ := Lib.hid (zzFits1_any u)
  have CP := Lib.hid (fun hf W => PlainG_any x y u hf W)
  have B0 : Hid (Blk (w.alloc (.cells (iurlA u) 26)) w.heap.size 26 (iurlA u)) := Lib.hid (Blk.new _ _ _)
  go_enter Tryd.func6, Tryd.ntmps6
  go_upto_if 12 with (first
    | (refine wpList_load_iu rfl _ rfl _ rfl _ _ B0 rfl ?_)
    | (go_at_call 12; (with_reducible refine (CZ.out _).mono ?_); rintro e w1 ⟨⟨b, rfl, hb⟩, hf1⟩; replace hb := Lib.hid hb; replace hf1 := Lib.hid hf1)
    | fail)
  cases b
  · go_wp2
    go_ret
    exact ⟨rfl, ((Fr.refl _).alloc _).trans hf1.out⟩
  · have CP2 := Lib.hid (CP.out (hb.out rfl))
    have B1 := Lib.hid (B0.out.below hf1.out (by simp))
    have hF1 : Hid (Fr w w1) := Lib.hid (((Fr.refl w).alloc _).trans hf1.out)
    clear hf1 B0 CP hb
    go_upto_region 4 with (first
      | (refine wpList_load_iu rfl _ rfl _ rfl _ _ B1 rfl ?_)
      | (go_at_call 13; (with_reducible refine (CP2.out _).mono ?_); rintro e w2 ⟨⟨P, rfl, hP⟩, hf2⟩; replace B1 := Lib.hid (B1.out.below hf2 B1.out.lt); replace hF1 : Hid (Fr w _) := Lib.hid (Fr.trans hF1.out hf2); clear hf2)
      | (refine wpList_store_iu rfl _ _ rfl _ _ rfl rfl _ _ B1 rfl rfl (iurlA_one _) ?_)
      | fail)
    obtain ⟨W3, hW3⟩ : ∃ W3, W3 = w2.setRow w.heap.size (iurlA P) := ⟨_, rfl⟩
    have B3 : Hid (Blk W3 w.heap.size 26 (iurlA P)) := by rw [hW3]; exact Lib.hid (B1.out.row _)
    have F3 : Hid (Fr w W3) := by rw [hW3]; exact Lib.hid (hF1.out.setRow (Nat.le_refl _) _)
    rw [← hW3]
    clear hW3 B1 hF1 CP2
    have C1 := Lib.hid (fun W hW => implStringP P hP W hW)
    have C2 := Lib.hid (fun W hW => implParseP P hP W hW)
    have C3 := Lib.hid (fun W hW => implRequestURI_any P hP W hW)
    have z5 : P.rawQuery.size ≤ 2147483648 := hP.f.z5
    have z3 : P.path.size ≤ 2147483648 := hP.f.z3
    have HREQ : Hid (reqL (L P.path) (L P.rawQuery) P.forceQuery = (if NU.escPath (L P.path) [] = [] then [47] else NU.escPath (L P.path) []) ++ NU.pQ P.forceQuery (L P.rawQuery)) := Lib.hid rfl
    have HZ := req_le P.path P.rawQuery P.forceQuery z3 z5
    obtain ⟨R, hR⟩ : ∃ R, R = pstrP P := ⟨_, rfl⟩
    obtain ⟨T, hT⟩ : ∃ T, T = backP P := ⟨_, rfl⟩
    obtain ⟨Q, hQ⟩ : ∃ Q, Q = mk (reqL (L P.path) (L P.rawQuery) P.forceQuery) := ⟨_, rfl⟩
    obtain ⟨ep, hep⟩ : ∃ ep, ep = T.escapedPath := ⟨_, rfl⟩
    have hepL : L ep = NU.escPath (L P.path) [] := by rw [hep, hT]; exact L_mk _
    have hepz : ep.size ≤ 6442450944 := by
      have h1 := esc_le 1 (L P.path)
      rw [L_length] at h1
      rw [← L_length, hepL, NU.escPath_nil _ (NU.goodP_ne hP.p)]; omega
    have HQL : Hid (L Q = (if L ep = [] then [47] else L ep) ++ NU.pQ P.forceQuery (L P.rawQuery)) := by
      show _ = _; rw [hQ, L_mk, HREQ.out, hepL]
    rw [← hQ] at HZ C3
    have HT14 : Hid (T.escapedPath = ep) := hep.symm
    rw [← hR] at C1 C2
    rw [← hT] at C2
    clear hR hT hQ hep hepL HREQ z3 hP
    obtain ⟨rq, hrq⟩ : ∃ rq, rq = P.rawQuery := ⟨_, rfl⟩
    obtain ⟨fq, hfq⟩ : ∃ fq, fq = P.forceQuery := ⟨_, rfl⟩
    have HC10 : Hid (P.rawQuery = rq) := hrq.symm
    have HC9 : Hid (P.forceQuery = fq) := hfq.symm
    rw [← hrq, ← hfq] at HQL
    rw [← hrq] at z5
    clear hrq hfq
    go_upto_region 5 with (first
      | (refine wpList_load_iu rfl _ rfl _ rfl _ _ B3 rfl ?_)
      | (go_at_call 14; (with_reducible refine (C1.out _ (Lib.hid (ht.out.fr F3.out))).mono ?_); rintro e w4 ⟨rfl, hf4⟩; replace B3 := Lib.hid (B3.out.below hf4 B3.out.lt); replace F3 : Hid (Fr w _) := Lib.hid (Fr.trans F3.out hf4); clear hf4)
      | (go_at_call 9; (with_reducible refine (C2.out _ (Lib.hid (ht.out.fr F3.out))).mono ?_); rintro e w5 ⟨rfl, hf5⟩; replace B3 := Lib.hid (B3.out.below hf5 B3.out.lt); replace F3 : Hid (Fr w _) := Lib.hid (Fr.trans F3.out hf5); clear hf5; have B5 : Hid (Blk (w5.alloc (.cells (iurlA zeroU) 26)) w5.heap.size 26 (iurlA zeroU)) := Lib.hid (Blk.new _ _ _))
      | (refine wpList_store_iu rfl _ _ rfl _ _ rfl rfl _ _ B5 rfl rfl (iurlA_one _) ?_)
      | fail)
    obtain ⟨k, hk⟩ : ∃ k, k = w5.heap.size := ⟨_, rfl⟩
    have hkw : Hid (w.heap.size < k) := by rw [hk]; exact Lib.hid B3.out.lt
    obtain ⟨W6, hW6⟩ : ∃ W6, W6 = (w5.alloc (.cells (iurlA zeroU) 26)).setRow k (iurlA T) := ⟨_, rfl⟩
    have F6 : Hid (Fr w W6) := by rw [hW6]; exact Lib.hid ((F3.out.alloc _).setRow (by have := hkw.out; omega) _)
    have BU6 : Hid (Blk W6 w.heap.size 26 (iurlA P)) := by rw [hW6]; exact Lib.hid ((B3.out.alloc _).farRow (by have := hkw.out; omega) _)
    have BV6 : Hid (Blk W6 k 26 (iurlA T)) := by rw [hW6, hk]; exact Lib.hid (B5.out.row _)
    rw [← hk]
    dsimp only [iurlA, zeroU] at hW6
    rw [← hW6]
    clear hW6 B5 B3 F3 hk
    have c14 : W6.cell? ⟨k, 14, none⟩ = some (.string ep) := by rw [← HT14.out]; exact BV6.out.cell 14
    have c10 : W6.cell? ⟨w.heap.size, 10, none⟩ = some (.string rq) := by rw [← HC10.out]; exact BU6.out.cell 10
    have c9 : W6.cell? ⟨w.heap.size, 9, none⟩ = some (.bool fq) := by rw [← HC9.out]; exact BU6.out.cell 9
    have HX : Hid (∀ x : ByteArray, L x = L Q → x = Q) := by
      show ∀ x : ByteArray, L x = L Q → x = Q
      exact fun x hx => eq_L hx
    have HQf : (fq = true ∨ fq = false) := by cases fq <;> simp
    clear CZ C1 C2 HT14 HC10 HC9 BV6
    by_cases hE : L ep = []
    all_goals by_cases hR : L rq = []
    all_goals rcases HQf with rfl | rfl
    all_goals
      have HE := Lib.hid hE
      have HRQ := Lib.hid hR
      first
        | have qe := L_empty hE
        | have qe := L_nempty hE
      first
        | have qr := L_empty hR
        | have qr := L_nempty hR
      clear hE hR
      go_upto_region 10 with fail
      first
        | (have hX : (⟨#[47]⟩ : ByteArray) ++ (⟨#[63]⟩ ++ rq) = Q := HX.out _ (by rw [HQL.out]; first | (rw [pQ_ne _ _ HRQ.out]; simp [L_app, l47, l63, HE.out]; done) | (simp [L_app, l47, l63, HE.out, HRQ.out, NU.pQ]; done))
           rw [hX])
        | (have hX : ep ++ (⟨#[63]⟩ ++ rq) = Q := HX.out _ (by rw [HQL.out]; first | (rw [pQ_ne _ _ HRQ.out]; simp [L_app, l47, l63, HE.out]; done) | (simp [L_app, l47, l63, HE.out, HRQ.out, NU.pQ]; done))
           rw [hX])
        | (have hX : (⟨#[47]⟩ : ByteArray) = Q := HX.out _ (by rw [HQL.out]; first | (rw [pQ_ne _ _ HRQ.out]; simp [L_app, l47, l63, HE.out]; done) | (simp [L_app, l47, l63, HE.out, HRQ.out, NU.pQ]; done))
           rw [hX])
        | (have hX : ep = Q := HX.out _ (by rw [HQL.out]; first | (rw [pQ_ne _ _ HRQ.out]; simp [L_app, l47, l63, HE.out]; done) | (simp [L_app, l47, l63, HE.out, HRQ.out, NU.pQ]; done))
           rw [hX])
      clear qe qr c14 c10 c9
      go_wp2_with (first
        | (refine wpList_load_iu_g (by rfl) _ rfl _ rfl _ _ BU6 rfl ?_)
        | (go_at_call 16; (with_reducible refine (C3.out _ (Lib.hid (ht.out.fr F6.out))).mono ?_); rintro e w8 ⟨rfl, hf8⟩)
        | fail)
      go_ret
      exact ⟨rfl, F6.out.trans hf8⟩
end Go.Proofs.YtibcegbacnjmfaaDoor
