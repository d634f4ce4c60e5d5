import Derived.Test.YtibcegbacnjmfaaDoorW97
namespace Go.Proofs.YtibcegbacnjmfaaDoor
set_option linter.unusedVariables false
set_option linter.unusedSimpArgs false
open Go.RowKit

/-- What is asked for. -/
def reqL (pa rq : List UInt8) (fq : Bool) : List UInt8 := (if NU.escPath pa [] = [] then [47] else NU.escPath pa []) ++ NU.pQ fq rq
theorem pQ_ne (fq : Bool) (l : List UInt8) (h : ¬ l = []) : NU.pQ fq l = 63 :: l := by
  unfold NU.pQ
  cases l with
  | nil => exact absurd rfl h
  | cons c r => simp
theorem l47 : L ⟨#[47]⟩ = [47] := rfl
theorem l63 : L ⟨#[63]⟩ = [63] := rfl
set_option maxRecDepth 100000 in
set_option maxHeartbeats 8000000 in
theorem urlRequestURI_any (sc ho pa fr rq : ByteArray) (us : Option (ByteArray × ByteArray × Bool)) (fq : Bool) (z3 : pa.size ≤ 2147483648) (z5 : rq.size ≤ 2147483648) (g : Nat) (w : World)
    (h : Hid (UrlIs w g ⟨sc, ⟨#[]⟩, us, ho, pa, fr, rq, ⟨#[]⟩, ⟨#[]⟩, fq, false⟩)) (ht : Hid (Tab w)) :
    Calls Tryd.prog 26 #[.pointer (some ⟨g, 0, none⟩)] w fun e w' => e = .returned (.string (mk (reqL (L pa) (L rq) fq))) ∧ Fr w w' := by
  obtain ⟨ep, hep⟩ : ∃ ep, ep = mk (NU.escPath (L pa) []) := ⟨_, rfl⟩
  have CE := Lib.hid (urlEscapedPath_any g ⟨sc, ⟨#[]⟩, us, ho, pa, fr, rq, ⟨#[]⟩, ⟨#[]⟩, fq, false⟩ (by show pa.size ≤ _; omega) (by show (0 : Nat) ≤ _; omega))
  have e1 : (mk (NU.escPath (L (UrlR.mk sc ⟨#[]⟩ us ho pa fr rq ⟨#[]⟩ ⟨#[]⟩ fq false).path) (L (UrlR.mk sc ⟨#[]⟩ us ho pa fr rq ⟨#[]⟩ ⟨#[]⟩ fq false).rawPath))) = ep := hep.symm
  rw [e1] at CE
  have hpL : L ep = NU.escPath (L pa) [] := by rw [hep, L_mk]
  have hepz : ep.size ≤ 6442450945 := by
    rw [← L_length, hpL]
    unfold NU.escPath
    split
    · simp
    · split
      · simp
      · have := esc_le 1 (L pa); rw [L_length] at this; omega
  have HRES : Hid (∀ x : ByteArray, L x = reqL (L pa) (L rq) fq → x = mk (reqL (L pa) (L rq) fq)) := by
    show ∀ x : ByteArray, L x = reqL (L pa) (L rq) fq → x = mk (reqL (L pa) (L rq) fq)
    intro x hx; rw [← hx, mk_L]
  have HREQ : Hid (reqL (L pa) (L rq) fq = (if L ep = [] then [47] else L ep) ++ NU.pQ fq (L rq)) := by show _ = _; rw [reqL, hpL]
  obtain ⟨q, hq⟩ : ∃ q, q = reqL (L pa) (L rq) fq := ⟨_, rfl⟩
  rw [← hq] at HRES HREQ ⊢
  clear hep hpL e1 hq z3
  obtain ⟨d0, d1, d3, d4, d5, d6, d7, d8, d9, d10⟩ := h.out.cells
  dsimp only at d0 d1 d3 d4 d5 d6 d7 d8 d9 d10
  have HQ : (fq = true ∨ fq = false) := by cases fq <;> simp
  by_cases hE : L ep = []
  all_goals by_cases hR : L rq = []
  all_goals rcases HQ with rfl | rfl
  all_goals
    have HE := Lib.hid hE
    have HRQ := Lib.hid hR
    first
      | have qe := L_empty hE
      | have qe := L_nempty hE
    first
      | have qr := L_empty hR
      | have qr := L_nempty hR
    clear hE hR
    go_enter Tryd.func26, Tryd.ntmps26
    go_wp2_with (first
      | (go_at_call 35; (with_reducible refine (CE.out _ h ht).mono ?_); rintro e w1 ⟨rfl, hf1⟩; obtain ⟨c0, c1, c3, c4, c5, c6, c7, c8, c9, c10⟩ := (h.out.fr hf1).cells; dsimp only at c0 c1 c3 c4 c5 c6 c7 c8 c9 c10)
      | (go_at_call 44; fail)
      | fail)
    go_ret
    exact ⟨congrArg (fun x => Ending.returned (Value.string x)) (HRES.out _ (by rw [HREQ.out]; first | (rw [pQ_ne _ _ HRQ.out]; simp [L_app, l47, l63, HE.out]; done) | (simp [L_app, l47, l63, HE.out, HRQ.out, NU.pQ]; done))), hf1⟩
theorem req_le (pa rq : ByteArray) (fq : Bool) (z3 : pa.size ≤ 2147483648) (z5 : rq.size ≤ 2147483648) : (mk (reqL (L pa) (L rq) fq)).size ≤ 8589934594 := by
  have h1 := esc_le 1 (L pa)
  rw [L_length] at h1
  rw [mk_size]
  unfold reqL NU.pQ NU.escPath
  rw [List.length_append]
  have hq : (if fq || !(L rq).isEmpty then (63 : UInt8) :: L rq else []).length ≤ 2147483649 := by
    split
    · rw [List.length_cons, L_length]; omega
    · simp
  have hp : (if (if NU.hintOk 1 (L pa) [] = true then [] else if L pa = [42] then [42] else NU.esc 1 (L pa)) = [] then ([47] : List UInt8) else (if NU.hintOk 1 (L pa) [] = true then [] else if L pa = [42] then [42] else NU.esc 1 (L pa))).length ≤ 6442450944 := by
    split
    · simp
    · split
      · simp
      · split
        · simp
        · omega
  omega
set_option maxRecDepth 100000 in
set_option maxHeartbeats 4000000 in
theorem implRequestURI_any (P : IUrl) (G : PlainG P) (w : World) (ht : Hid (Tab w)) :
    Calls Tryd.prog 16 #[.agg (iurlA P)] w fun e w' => e = .returned (.string (mk (reqL (L P.path) (L P.rawQuery) P.forceQuery))) ∧ Fr w w' := by
  have hF := G.f
  obtain ⟨sc, op, hu, un, hp, pw, ho, pa, rp, fq, rq, fr, rf, oh, ep, ef⟩ := P
  obtain ⟨h1, h2, h3, h4, hsc, hho, hpa, z1, z2, z3, z4, z5, z6, z7⟩ := hF
  dsimp only at h1 h2 h3 h4 hsc hho hpa z1 z2 z3 z4 z5 z6 z7
  subst h1 h2 h3 h4
  have C := Lib.hid (made_call sc ⟨#[]⟩ un pw ho pa ⟨#[]⟩ rq fr ⟨#[]⟩ ep ef hu hp fq false)
  have D := Lib.hid (fun (g : Nat) W (h : Hid (UrlIs W g (madeOf ⟨sc, ⟨#[]⟩, hu, un, hp, pw, ho, pa, ⟨#[]⟩, fq, rq, fr, ⟨#[]⟩, false, ep, ef⟩))) hT => urlRequestURI_any sc ho pa fr rq (usOf hu un hp pw) fq z3 z5 g W h hT)
  dsimp only
  obtain ⟨R, hR⟩ : ∃ R, R = mk (reqL (L pa) (L rq) fq) := ⟨_, rfl⟩
  rw [← hR] at D ⊢
  dsimp only [iurlA]
  clear hR hsc hho hpa z1 z2 z3 z4 z5 z6 z7 G
  go_enter Tryd.func16, Tryd.ntmps16
  go_wp2_with fail
  refine C.out _ _ ?_
  intro g w1 hf1 hu1
  have hF : Fr w w1 := by first | exact hf1 | exact ((Fr.refl _).alloc _).trans hf1
  have ht1 := Lib.hid (ht.out.fr hF)
  replace hF := Lib.hid hF
  clear hf1
  go_wp2_with (go_at_call 26; refine (D.out g _ hu1 ht1).mono ?_; rintro e w2 ⟨rfl, hf2⟩)
  go_ret
  exact ⟨rfl, hF.out.trans hf2⟩
end Go.Proofs.YtibcegbacnjmfaaDoor
