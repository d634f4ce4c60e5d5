import Derived.Test.YtibcegbacnjmfaaDoorW80
import Derived.Test.YtibcegbacnjmfaaDoorW81
import Derived.Test.YtibcegbacnjmfaaDoorP
import Derived.Deep.DeepCutAuto
import Derived.Outline
namespace Go.Proofs.YtibcegbacnjmfaaDoor
set_option linter.unusedVariables false
set_option linter.unusedSimpArgs false
open Go.RowKit

/-- A URL without hints. -/
abbrev plainR (sc : ByteArray) (us : Option (ByteArray × ByteArray × Bool)) (ho pa fr rq : ByteArray) (fq : Bool) : UrlR :=
  { scheme := sc, opq := ⟨#[]⟩, user := us, host := ho, path := pa, fragment := fr, rawQuery := rq, rawPath := ⟨#[]⟩, rawFragment := ⟨#[]⟩, forceQuery := fq, omitHost := false }
theorem plain_cells {W : World} {g : Nat} {sc : ByteArray} {us : Option (ByteArray × ByteArray × Bool)} {ho pa fr rq : ByteArray} {fq : Bool} {q : Option Addr} (h : Blk W g 65 (urlA (plainR sc us ho pa fr rq fq) (.pointer q))) :
    W.cell? ⟨g, 0, none⟩ = some (.string sc) ∧ W.cell? ⟨g, 1, none⟩ = some (.string ⟨#[]⟩) ∧ W.cell? ⟨g, 2, none⟩ = some (.pointer q) ∧ W.cell? ⟨g, 3, none⟩ = some (.string ho) ∧ W.cell? ⟨g, 4, none⟩ = some (.string pa) ∧
    W.cell? ⟨g, 5, none⟩ = some (.string fr) ∧ W.cell? ⟨g, 6, none⟩ = some (.string rq) ∧ W.cell? ⟨g, 8, none⟩ = some (.string ⟨#[]⟩) ∧ W.cell? ⟨g, 9, none⟩ = some (.bool fq) ∧ W.cell? ⟨g, 10, none⟩ = some (.bool false) :=
  ⟨h.cell 0, h.cell 1, h.cell 2, h.cell 3, h.cell 4, h.cell 5, h.cell 6, h.cell 8, h.cell 9, h.cell 10⟩
def userL : Option (ByteArray × ByteArray × Bool) → NU.PUser
  | none => none
  | some (n, p, b) => some (L n, L p, b)
/-- No user's name or password is great. -/
def UserSz (us : Option (ByteArray × ByteArray × Bool)) : Prop := ∀ n p b, us = some (n, p, b) → n.size ≤ 2147483647 ∧ p.size ≤ 2147483647
theorem uiStr_sz (n p : ByteArray) (b : Bool) (hn : n.size ≤ 2147483647) (hp : p.size ≤ 2147483647) : (mk (NU.uiStr (L n, L p, b))).size ≤ 1099511627776 := by
  have h1 := esc_sz 16 n _ hn
  have h2 := esc_sz 16 p _ hp
  rw [mk_size] at h1 h2 ⊢
  unfold NU.uiStr
  cases b <;> simp <;> omega
set_option maxRecDepth 100000 in
set_option maxHeartbeats 16000000 in
theorem urlString_any (sc ho pa fr rq : ByteArray) (us : Option (ByteArray × ByteArray × Bool)) (fq : Bool) (hsc : ¬ L sc = []) (hho : ¬ L ho = []) (hpa : L pa = [] ∨ ∃ r, L pa = 47 :: r)
    (z1 : sc.size ≤ 2147483648) (z2 : ho.size ≤ 2147483648) (z3 : pa.size ≤ 2147483648) (z4 : fr.size ≤ 2147483648) (z5 : rq.size ≤ 2147483648) (z6 : UserSz us)
    (g : Nat) (w : World) (h : Hid (UrlIs w g (plainR sc us ho pa fr rq fq))) (ht : Hid (Tab w)) :
    Calls Tryd.prog 25 #[.pointer (some ⟨g, 0, none⟩)] w fun e w' => e = .returned (.string (mk (NU.pstr (L sc) (userL us) (L ho) (L pa) (L fr) (L rq) fq))) ∧ Fr w w' := by
  obtain ⟨v, hu, HB⟩ := h.out
  clear h
  obtain ⟨q, rfl⟩ := user_ptr hu
  replace hu := Lib.hid hu
  replace HB := Lib.hid HB
  have HU : Hid (∀ W, Fr w W → UrlIs W g (plainR sc us ho pa fr rq fq)) := by
    show ∀ W, _ → _
    intro W hf
    exact ⟨_, hu.out.fr hf, HB.out.below hf HB.out.lt⟩
  obtain ⟨un, hun⟩ : ∃ un, un = (us.map (·.1)).getD ⟨#[]⟩ := ⟨_, rfl⟩
  obtain ⟨pw, hpw⟩ : ∃ pw, pw = (us.map (·.2.1)).getD ⟨#[]⟩ := ⟨_, rfl⟩
  obtain ⟨hb, hhb⟩ : ∃ hb, hb = (us.map (·.2.2)).getD false := ⟨_, rfl⟩
  have zu : un.size ≤ 2147483647 ∧ pw.size ≤ 2147483647 := by
    rw [hun, hpw]
    match us, z6 with
    | none, _ => exact ⟨by decide, by decide⟩
    | some (n, p, b), z6 => exact z6 n p b rfl
  obtain ⟨z7, z8⟩ := zu
  have CU := Lib.hid (fun W (hf : Fr w W) => username_all W (.pointer q) us (Lib.hid (hu.out.fr hf)))
  have CPw := Lib.hid (fun W (hf : Fr w W) => password_all W (.pointer q) us (Lib.hid (hu.out.fr hf)))
  rw [← hun] at CU
  rw [← hpw, ← hhb] at CPw
  have CEs := Lib.hid (fun W (hf : Fr w W) => escape_m ho 4 4 rfl (by omega) W (Lib.hid (ht.out.fr hf)))
  have CEp := Lib.hid (fun W (hf : Fr w W) => urlEscapedPath_any g (plainR sc us ho pa fr rq fq) (by show pa.size ≤ _; omega) (by show (0 : Nat) ≤ _; omega) W (Lib.hid (HU.out W hf)) (Lib.hid (ht.out.fr hf)))
  have CEf := Lib.hid (fun W (hf : Fr w W) => urlEscapedFragment_any g (plainR sc us ho pa fr rq fq) (by show fr.size ≤ _; omega) (by show (0 : Nat) ≤ _; omega) W (Lib.hid (HU.out W hf)) (Lib.hid (ht.out.fr hf)))
  dsimp only [plainR] at CEp CEf
  obtain ⟨eh, heh⟩ : ∃ eh, eh = mk (NU.esc 4 (L ho)) := ⟨_, rfl⟩
  obtain ⟨ep, hep⟩ : ∃ ep, ep = mk (NU.escPath (L pa) []) := ⟨_, rfl⟩
  obtain ⟨ef, hef⟩ : ∃ ef, ef = mk (NU.escFrag (L fr) []) := ⟨_, rfl⟩
  rw [← heh] at CEs
  rw [show L ⟨#[]⟩ = [] from rfl, ← hep] at CEp
  rw [show L ⟨#[]⟩ = [] from rfl, ← hef] at CEf
  have y1 : eh.size ≤ 1099511627776 := by have := esc_sz 4 ho _ z2; rw [heh]; omega
  have y2 : ep.size ≤ 1099511627776 := by
    rw [hep]
    have h1 := esc_sz 1 pa _ z3
    rw [mk_size] at h1 ⊢
    unfold NU.escPath
    split
    · simp
    · split
      · simp
      · omega
  have y3 : ef.size ≤ 1099511627776 := by
    rw [hef]
    have h1 := esc_sz 64 fr _ z4
    rw [mk_size] at h1 ⊢
    unfold NU.escFrag
    split
    · simp
    · omega
  have hepc : ep.toList.isEmpty = true ∨ ep.toList.isEmpty = false ∧ ∃ h : 0 < ep.size, ((ep[0].toNat : Int) != 47) = false := by
    rcases hpa with hp | ⟨r, hp⟩
    · left; rw [show ep.toList = [] from L_empty (s := ep) (by rw [hep, hp, L_mk]; rfl)]; rfl
    · right
      have e : ∃ r', NU.escPath (L pa) [] = 47 :: r' := by
        rw [hp]; unfold NU.escPath
        rw [if_neg (by simp [NU.hintOk]), if_neg (by simp)]
        exact ⟨NU.esc 1 r, by rw [NU.esc]; rfl⟩
      obtain ⟨r', e⟩ := e
      have hl : L ep = 47 :: r' := by rw [hep, e, L_mk]
      refine ⟨L_nempty (by rw [hl]; simp), by rw [← L_length, hl]; simp, ?_⟩
      have h0 : ep[0]'(by rw [← L_length, hl]; simp) = (L ep)[0]'(by rw [hl]; simp) := rfl
      rw [h0]
      simp only [hl, List.getElem_cons_zero]; rfl
  have HSTR : Hid (NU.pstr (L sc) (userL us) (L ho) (L pa) (L fr) (L rq) fq = L sc ++ [58] ++ [47, 47] ++ NU.pUser (userL us) ++ L eh ++ L ep ++ NU.pQ fq (L rq) ++ (if (L fr).isEmpty then [] else 35 :: L ef)) := by
    show _ = _; unfold NU.pstr NU.pF; rw [heh, hep, hef, L_mk, L_mk, L_mk]
  have q0 := L_nempty hsc
  have q1 := L_nempty hho
  clear hsc hho hpa hun hpw hhb heh hep hef
  obtain ⟨c0, c1, c2, c3, c4, c5, c6, c8, c9, c10⟩ := plain_cells (HB.out.alloc (.cells #[.pointer none, .slice none 0 0] 71))
  go_enter Tryd.func25, Tryd.ntmps25
  go_upto_region 10 with (first
    | (go_at_call 33; (with_reducible refine (CU.out _ ((Fr.refl _).alloc _)).mono ?_); rintro e w1 ⟨rfl, rfl⟩)
    | (go_at_call 34; (with_reducible refine (CPw.out _ ((Fr.refl _).alloc _)).mono ?_); rintro e w1 ⟨rfl, hf1⟩; have HFx : Hid (Fr w w1) := Lib.hid (((Fr.refl _).alloc _).trans hf1); have hbk : Hid (Blk w1 w.heap.size 71 #[.pointer none, .slice none 0 0]) := Lib.hid ((Blk.new w _ _).below hf1 (by simp)); clear c0 c1 c2 c3 c4 c5 c6 c8 c9 c10; obtain ⟨c0, c1, c2, c3, c4, c5, c6, c8, c9, c10⟩ := plain_cells (HB.out.below HFx.out HB.out.lt)))
  go_cut [4] (fun c wx => ∃ N : Nat, N ≤ 70368744177664 ∧ c = .int .i64 (N : Int) ∧ Fr w1 wx)
  case first =>
    as_aux_lemma =>
      have d6 : w1.drew.cell? ⟨g, 6, none⟩ = some (.string rq) := c6
      have d8 : w1.drew.cell? ⟨g, 8, none⟩ = some (.string ⟨#[]⟩) := c8
      go_region
      all_goals go_wp2
      all_goals go_meet
      all_goals exact ⟨sc.size + (un.size + pw.size + ho.size) + pa.size + rq.size, by omega, congrArg (Value.int .i64) (by first | omega | (simp; omega)), (Fr.refl _).drew⟩
  case rest =>
  as_aux_lemma =>
  obtain ⟨N, hN, rfl, hf2⟩ := hcut
  replace hbk := Lib.hid (hbk.out.below hf2 hbk.out.lt)
  replace HFx : Hid (Fr w _) := Lib.hid (Fr.trans HFx.out hf2)
  clear hf2 c0 c1 c2 c3 c4 c5 c6 c8 c9 c10
  obtain ⟨c0, c1, c2, c3, c4, c5, c6, c8, c9, c10⟩ := plain_cells (HB.out.below HFx.out HB.out.lt)
  have CG := Lib.hid (growB w.heap.size N wc hN hbk HFx.out.size)
  go_upto_region 22 with (first
    | (go_at_call 39; (with_reducible refine CG.out.mono ?_); rintro e w2 ⟨rfl, hi5, hk5⟩; have HIx := Lib.hid hi5; replace HFx : Hid (Fr w _) := Lib.hid (Below.trans HFx.out hk5); clear hi5 hk5 hbk; clear c0 c1 c2 c3 c4 c5 c6 c8 c9 c10; obtain ⟨c0, c1, c2, c3, c4, c5, c6, c8, c9, c10⟩ := plain_cells (HB.out.below HFx.out HB.out.lt))
    | (go_at_call 40; refine (wsB _ _ _ _ _ (by first | assumption | omega | decide) (by omega) HIx).mono ?_; rintro e w3 ⟨rfl, hi5, hk5⟩; replace HIx := Lib.hid hi5; replace HFx : Hid (Fr w _) := Lib.hid (Below.trans HFx.out hk5); clear hi5 hk5; clear c0 c1 c2 c3 c4 c5 c6 c8 c9 c10; obtain ⟨c0, c1, c2, c3, c4, c5, c6, c8, c9, c10⟩ := plain_cells (HB.out.below HFx.out HB.out.lt))
    | (go_at_call 41; refine (wbB _ _ _ 58 _ (by rfl) _ (by omega) HIx).mono ?_; rintro e w4 ⟨rfl, hi5, hk5⟩; replace HIx := Lib.hid hi5; replace HFx : Hid (Fr w _) := Lib.hid (Below.trans HFx.out hk5); clear hi5 hk5; clear c0 c1 c2 c3 c4 c5 c6 c8 c9 c10; obtain ⟨c0, c1, c2, c3, c4, c5, c6, c8, c9, c10⟩ := plain_cells (HB.out.below HFx.out HB.out.lt)))
  obtain ⟨T1, hT1⟩ : ∃ T1, T1 = L sc ++ [58] ++ [47, 47] := ⟨_, rfl⟩
  have HI1 : Hid (BU w.heap.size 3 T1 w3) := by have := HIx.out; rw [List.nil_append] at this; rw [hT1]; exact this
  rw [← hT1] at HSTR
  have HT1 : Hid (0 < T1.length) := by show _ < _; rw [hT1]; simp
  clear hT1 HIx CG CU CPw
  go_upto_if 190 with fail
  go_cut [8] (fun _ wx => Hid (BU w.heap.size 5 (T1 ++ NU.pUser (userL us)) wx) ∧ Fr w wx)
  case first =>
    as_aux_lemma =>
      have hcs : (us = none ∧ q = none) ∨ ∃ n p b k, us = some (n, p, b) ∧ q = some ⟨k, 0, none⟩ ∧ Blk w k 87 (userA n p b) := by
        match us, hu.out with
        | none, h => left; exact ⟨rfl, by cases h; rfl⟩
        | some (n, p, b), ⟨k, hk, hbk⟩ => right; exact ⟨n, p, b, k, rfl, by cases hk; rfl, hbk⟩
      rcases hcs with ⟨rfl, rfl⟩ | ⟨n, p, b, k, rfl, rfl, hbk⟩
      · go_wp2
        go_meet
        case rel => exact ⟨by have := HI1.out; rw [show T1 ++ NU.pUser (userL none) = T1 from List.append_nil _]; exact this.mono (by omega), HFx.out⟩
      · obtain ⟨za, zb⟩ := z6 n p b rfl
        replace hbk := Lib.hid hbk
        have CUi := Lib.hid (fun W (hf : Fr w W) => uiString_any k n p b (by omega) (by omega) W (Lib.hid (hbk.out.below hf hbk.out.lt)) (Lib.hid (ht.out.fr hf)))
        have y4 := uiStr_sz n p b za zb
        obtain ⟨ui, hui⟩ : ∃ ui, ui = mk (NU.uiStr (L n, L p, b)) := ⟨_, rfl⟩
        have HUI : Hid (NU.pUser (userL (some (n, p, b))) = L ui ++ [64]) := by show _ = _; rw [hui, L_mk]; rfl
        rw [← hui] at CUi y4
        have HIx := HI1
        clear hui HI1
        go_wp2_with (first
          | (go_at_call 42; (with_reducible refine (CUi.out _ HFx.out).mono ?_); rintro e w20 ⟨rfl, hf5⟩; replace HIx := Lib.hid (HIx.out.fr hf5); replace HFx : Hid (Fr w _) := Lib.hid (Fr.trans HFx.out hf5); clear hf5; clear c0 c1 c2 c3 c4 c5 c6 c8 c9 c10; obtain ⟨c0, c1, c2, c3, c4, c5, c6, c8, c9, c10⟩ := plain_cells (HB.out.below HFx.out HB.out.lt))
          | (go_at_call 40; refine (wsB _ _ _ _ _ (by first | assumption | omega | decide) (by omega) HIx).mono ?_; rintro e w21 ⟨rfl, hi5, hk5⟩; replace HIx := Lib.hid hi5; replace HFx : Hid (Fr w _) := Lib.hid (Below.trans HFx.out hk5); clear hi5 hk5; clear c0 c1 c2 c3 c4 c5 c6 c8 c9 c10; obtain ⟨c0, c1, c2, c3, c4, c5, c6, c8, c9, c10⟩ := plain_cells (HB.out.below HFx.out HB.out.lt))
          | (go_at_call 41; refine (wbB _ _ _ 64 _ (by rfl) _ (by omega) HIx).mono ?_; rintro e w22 ⟨rfl, hi5, hk5⟩; replace HIx := Lib.hid hi5; replace HFx : Hid (Fr w _) := Lib.hid (Below.trans HFx.out hk5); clear hi5 hk5; clear c0 c1 c2 c3 c4 c5 c6 c8 c9 c10; obtain ⟨c0, c1, c2, c3, c4, c5, c6, c8, c9, c10⟩ := plain_cells (HB.out.below HFx.out HB.out.lt)))
        go_meet
        case rel => exact ⟨by rw [HUI.out, ← List.append_assoc]; exact HIx.out, HFx.out⟩
  case rest =>
  as_aux_lemma =>
  obtain ⟨HIx, hf2⟩ := hcut
  replace HFx : Hid (Fr w _) := Lib.hid hf2
  clear HI1 hf2 z6 c0 c1 c2 c3 c4 c5 c6 c8 c9 c10
  obtain ⟨c0, c1, c2, c3, c4, c5, c6, c8, c9, c10⟩ := plain_cells (HB.out.below HFx.out HB.out.lt)
  obtain ⟨T2, hT2⟩ : ∃ T2, T2 = T1 ++ NU.pUser (userL us) ++ L eh := ⟨_, rfl⟩
  rw [← hT2] at HSTR
  go_upto_region 33 with (first
    | (go_at_call 43; (with_reducible refine (CEs.out _ HFx.out).mono ?_); rintro e w30 ⟨rfl, hf5⟩; replace HIx := Lib.hid (HIx.out.fr hf5); replace HFx : Hid (Fr w _) := Lib.hid (Fr.trans HFx.out hf5); clear hf5; clear c0 c1 c2 c3 c4 c5 c6 c8 c9 c10; obtain ⟨c0, c1, c2, c3, c4, c5, c6, c8, c9, c10⟩ := plain_cells (HB.out.below HFx.out HB.out.lt))
    | (go_at_call 40; refine (wsB _ _ _ _ _ (by first | assumption | omega | decide) (by omega) HIx).mono ?_; rintro e w31 ⟨rfl, hi5, hk5⟩; replace HIx := Lib.hid hi5; replace HFx : Hid (Fr w _) := Lib.hid (Below.trans HFx.out hk5); clear hi5 hk5; clear c0 c1 c2 c3 c4 c5 c6 c8 c9 c10; obtain ⟨c0, c1, c2, c3, c4, c5, c6, c8, c9, c10⟩ := plain_cells (HB.out.below HFx.out HB.out.lt))
    | (go_at_call 35; (with_reducible refine (CEp.out _ HFx.out).mono ?_); rintro e w32 ⟨rfl, hf5⟩; replace HIx := Lib.hid (HIx.out.fr hf5); replace HFx : Hid (Fr w _) := Lib.hid (Fr.trans HFx.out hf5); clear hf5; clear c0 c1 c2 c3 c4 c5 c6 c8 c9 c10; obtain ⟨c0, c1, c2, c3, c4, c5, c6, c8, c9, c10⟩ := plain_cells (HB.out.below HFx.out HB.out.lt)))
  go_cut [244] (fun c wx => c = .bool false ∧ Hid (BU w.heap.size 6 T2 wx) ∧ Fr w wx)
  case first =>
    as_aux_lemma =>
      rcases hepc with hq | ⟨hq, h0, h1⟩
      all_goals go_wp2
      all_goals go_meet
      all_goals exact ⟨rfl, by rw [hT2]; exact HIx.out, HFx.out⟩
  case rest =>
  as_aux_lemma =>
  obtain ⟨rfl, HIx, hf2⟩ := hcut
  replace HFx : Hid (Fr w _) := Lib.hid hf2
  clear hf2 c0 c1 c2 c3 c4 c5 c6 c8 c9 c10 hepc
  obtain ⟨c0, c1, c2, c3, c4, c5, c6, c8, c9, c10⟩ := plain_cells (HB.out.below HFx.out HB.out.lt)
  obtain ⟨m, hm⟩ : ∃ m, m = T2.length := ⟨_, rfl⟩
  have hm0 : ((m : Int) == 0) = false := by
    have : 0 < m := by rw [hm, hT2]; have := HT1.out; simp only [List.length_append]; omega
    simp; omega
  have CL := Lib.hid (lenB w.heap.size 6 T2 _ HIx)
  rw [← hm] at CL
  obtain ⟨T3, hT3⟩ : ∃ T3, T3 = T2 ++ L ep := ⟨_, rfl⟩
  rw [← hT3] at HSTR
  clear hT2 hm CEs CEp
  go_upto_region 40 with (first
    | (go_at_call 45; (with_reducible refine CL.out.mono ?_); rintro e w33 ⟨rfl, rfl⟩)
    | (go_at_call 40; refine (wsB _ _ _ _ _ (by first | assumption | omega | decide) (by omega) HIx).mono ?_; rintro e w34 ⟨rfl, hi5, hk5⟩; replace HIx := Lib.hid hi5; replace HFx : Hid (Fr w _) := Lib.hid (Below.trans HFx.out hk5); clear hi5 hk5; clear c0 c1 c2 c3 c4 c5 c6 c8 c9 c10; obtain ⟨c0, c1, c2, c3, c4, c5, c6, c8, c9, c10⟩ := plain_cells (HB.out.below HFx.out HB.out.lt)))
  go_cut [269] (fun c wx => c = .bool (fq || !(L rq).isEmpty) ∧ Hid (BU w.heap.size 7 T3 wx) ∧ Fr w wx)
  case first =>
    as_aux_lemma =>
      have HI3 : Hid (BU w.heap.size 7 T3 w34) := by show BU _ _ _ _; rw [hT3]; exact HIx.out
      cases fq
      · by_cases hq : L rq = []
        · have q2 := L_empty hq
          have HV : Hid (Value.bool (false || !(L rq).isEmpty) = .bool false) := by show _ = _; rw [hq]; rfl
          clear hq
          go_wp2
          go_meet
          exact ⟨by rw [HV.out], HI3.out, HFx.out⟩
        · have q2 := L_nempty hq
          have HV : Hid (Value.bool (false || !(L rq).isEmpty) = .bool true) := by show _ = _; rw [show (L rq).isEmpty = false by simpa using hq]; rfl
          clear hq
          go_wp2
          go_meet
          exact ⟨by rw [HV.out], HI3.out, HFx.out⟩
      · go_wp2
        go_meet
        exact ⟨rfl, HI3.out, HFx.out⟩
  case rest =>
  as_aux_lemma =>
  obtain ⟨rfl, HIx, hf2⟩ := hcut
  replace HFx : Hid (Fr w _) := Lib.hid hf2
  clear hf2 c0 c1 c2 c3 c4 c5 c6 c8 c9 c10 hT3 CL hm0
  obtain ⟨c0, c1, c2, c3, c4, c5, c6, c8, c9, c10⟩ := plain_cells (HB.out.below HFx.out HB.out.lt)
  obtain ⟨b2, hb2⟩ : ∃ b2, b2 = (fq || !(L rq).isEmpty) := ⟨_, rfl⟩
  have HPQ : Hid (NU.pQ fq (L rq) = if b2 then 63 :: L rq else []) := by show _ = _; rw [hb2]; rfl
  rw [← hb2]
  clear hb2
  go_upto_if 269 with fail
  go_cut [8] (fun _ wx => Hid (BU w.heap.size 9 (T3 ++ NU.pQ fq (L rq)) wx) ∧ Fr w wx)
  case first =>
    as_aux_lemma =>
      cases b2
      · have HP2 : Hid (T3 ++ NU.pQ fq (L rq) = T3) := by show _ = _; rw [HPQ.out]; exact List.append_nil _
        clear HPQ
        go_wp2
        go_meet
        case rel => exact ⟨by rw [HP2.out]; exact HIx.out.mono (by omega), HFx.out⟩
      · have HP2 : Hid (NU.pQ fq (L rq) = 63 :: L rq) := by show _ = _; rw [HPQ.out]; rfl
        clear HPQ
        go_wp2_with (first
          | (go_at_call 41; refine (wbB _ _ _ 63 _ (by rfl) _ (by omega) HIx).mono ?_; rintro e w51 ⟨rfl, hi5, hk5⟩; replace HIx := Lib.hid hi5; replace HFx : Hid (Fr w _) := Lib.hid (Below.trans HFx.out hk5); clear hi5 hk5; clear c0 c1 c2 c3 c4 c5 c6 c8 c9 c10; obtain ⟨c0, c1, c2, c3, c4, c5, c6, c8, c9, c10⟩ := plain_cells (HB.out.below HFx.out HB.out.lt))
          | (go_at_call 40; refine (wsB _ _ _ _ _ (by first | assumption | omega | decide) (by omega) HIx).mono ?_; rintro e w52 ⟨rfl, hi5, hk5⟩; replace HIx := Lib.hid hi5; replace HFx : Hid (Fr w _) := Lib.hid (Below.trans HFx.out hk5); clear hi5 hk5; clear c0 c1 c2 c3 c4 c5 c6 c8 c9 c10; obtain ⟨c0, c1, c2, c3, c4, c5, c6, c8, c9, c10⟩ := plain_cells (HB.out.below HFx.out HB.out.lt)))
        go_meet
        case rel => exact ⟨by rw [HP2.out]; have := HIx.out; rw [List.append_assoc] at this; exact this, HFx.out⟩
  case rest =>
  as_aux_lemma =>
  obtain ⟨HIx, hf2⟩ := hcut
  replace HFx : Hid (Fr w _) := Lib.hid hf2
  clear hf2 c0 c1 c2 c3 c4 c5 c6 c8 c9 c10 HPQ
  obtain ⟨c0, c1, c2, c3, c4, c5, c6, c8, c9, c10⟩ := plain_cells (HB.out.below HFx.out HB.out.lt)
  obtain ⟨T4, hT4⟩ : ∃ T4, T4 = T3 ++ NU.pQ fq (L rq) := ⟨_, rfl⟩
  rw [← hT4] at HSTR HIx
  clear hT4
  go_upto_region 43 with fail
  go_cut [280] (fun c wx => c = .bool (!(L fr).isEmpty) ∧ Hid (BU w.heap.size 9 T4 wx) ∧ Fr w wx)
  case first =>
    as_aux_lemma =>
      by_cases hq : L fr = []
      · have q2 := L_empty hq
        have HV : Hid (Value.bool (!(L fr).isEmpty) = .bool false) := by show _ = _; rw [hq]; rfl
        clear hq
        go_wp2
        go_meet
        exact ⟨by rw [HV.out], HIx.out, HFx.out⟩
      · have q2 := L_nempty hq
        have HV : Hid (Value.bool (!(L fr).isEmpty) = .bool true) := by show _ = _; rw [show (L fr).isEmpty = false by simpa using hq]; rfl
        clear hq
        go_wp2
        go_meet
        exact ⟨by rw [HV.out], HIx.out, HFx.out⟩
  case rest =>
  as_aux_lemma =>
  obtain ⟨rfl, HIx, hf2⟩ := hcut
  replace HFx : Hid (Fr w _) := Lib.hid hf2
  clear hf2 c0 c1 c2 c3 c4 c5 c6 c8 c9 c10
  obtain ⟨c0, c1, c2, c3, c4, c5, c6, c8, c9, c10⟩ := plain_cells (HB.out.below HFx.out HB.out.lt)
  obtain ⟨b3, hb3⟩ : ∃ b3, b3 = !(L fr).isEmpty := ⟨_, rfl⟩
  have HV : Hid ((if (L fr).isEmpty then [] else 35 :: L ef) = if b3 then 35 :: L ef else []) := by show _ = _; rw [hb3]; cases (L fr).isEmpty <;> rfl
  rw [← hb3]
  clear hb3
  go_upto_if 280 with fail
  go_cut [8] (fun _ wx => Hid (BU w.heap.size 11 (T4 ++ (if (L fr).isEmpty then [] else 35 :: L ef)) wx) ∧ Fr w wx)
  case first =>
    as_aux_lemma =>
      cases b3
      · have HP2 : Hid (T4 ++ (if (L fr).isEmpty then [] else 35 :: L ef) = T4) := by show _ = _; rw [HV.out]; exact List.append_nil _
        clear HV
        go_wp2
        go_meet
        case rel => exact ⟨by rw [HP2.out]; exact HIx.out.mono (by omega), HFx.out⟩
      · have HP2 : Hid ((if (L fr).isEmpty then [] else 35 :: L ef) = 35 :: L ef) := by show _ = _; rw [HV.out]; rfl
        clear HV
        go_wp2_with (first
          | (go_at_call 41; refine (wbB _ _ _ 35 _ (by rfl) _ (by omega) HIx).mono ?_; rintro e w61 ⟨rfl, hi5, hk5⟩; replace HIx := Lib.hid hi5; replace HFx : Hid (Fr w _) := Lib.hid (Below.trans HFx.out hk5); clear hi5 hk5; clear c0 c1 c2 c3 c4 c5 c6 c8 c9 c10; obtain ⟨c0, c1, c2, c3, c4, c5, c6, c8, c9, c10⟩ := plain_cells (HB.out.below HFx.out HB.out.lt))
          | (go_at_call 36; (with_reducible refine (CEf.out _ HFx.out).mono ?_); rintro e w40 ⟨rfl, hf5⟩; replace HIx := Lib.hid (HIx.out.fr hf5); replace HFx : Hid (Fr w _) := Lib.hid (Fr.trans HFx.out hf5); clear hf5; clear c0 c1 c2 c3 c4 c5 c6 c8 c9 c10; obtain ⟨c0, c1, c2, c3, c4, c5, c6, c8, c9, c10⟩ := plain_cells (HB.out.below HFx.out HB.out.lt))
          | (go_at_call 40; refine (wsB _ _ _ _ _ (by first | assumption | omega | decide) (by omega) HIx).mono ?_; rintro e w62 ⟨rfl, hi5, hk5⟩; replace HIx := Lib.hid hi5; replace HFx : Hid (Fr w _) := Lib.hid (Below.trans HFx.out hk5); clear hi5 hk5; clear c0 c1 c2 c3 c4 c5 c6 c8 c9 c10; obtain ⟨c0, c1, c2, c3, c4, c5, c6, c8, c9, c10⟩ := plain_cells (HB.out.below HFx.out HB.out.lt)))
        go_meet
        case rel => exact ⟨by rw [HP2.out]; have := HIx.out; rw [List.append_assoc] at this; exact this, HFx.out⟩
  case rest =>
  as_aux_lemma =>
  obtain ⟨HIx, hf2⟩ := hcut
  replace HFx : Hid (Fr w _) := Lib.hid hf2
  rw [← HSTR.out] at HIx
  have CS := Lib.hid (strB w.heap.size 11 _ _ HIx)
  go_wp2_with (go_at_call 47; (with_reducible refine CS.out.mono ?_); rintro e w99 ⟨rfl, hf99⟩)
  go_ret
  exact ⟨rfl, Below.trans HFx.out hf99⟩
end Go.Proofs.YtibcegbacnjmfaaDoor
