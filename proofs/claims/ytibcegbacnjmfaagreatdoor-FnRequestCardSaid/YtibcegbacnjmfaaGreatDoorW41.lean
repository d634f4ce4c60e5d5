import Derived.Test.YtibcegbacnjmfaaGreatDoorW40
import Derived.Deep.DeepCutAuto
import Derived.Outline
namespace Go.Proofs.YtibcegbacnjmfaaGreatDoor
set_option linter.unusedVariables false
set_option linter.unusedSimpArgs false
open Go.RowKit

def urlBA (u : NU.PU) : UrlR :=
  { scheme := mk u.scheme, opq := mk u.opq, user := userBA u.user, host := mk u.host, path := mk u.path, fragment := mk u.frag, rawQuery := mk u.rawq, rawPath := mk u.rawpath, rawFragment := mk u.rawfrag, forceQuery := u.fq, omitHost := u.oh }
def PaPost (o : Option NU.PU) (w : World) (e : Ending) (w' : World) : Prop :=
  Fr w w' ∧ match o with
  | none => ∃ v, ErrV v ∧ e = .returned (.tuple #[.pointer none, v])
  | some u => ∃ g, e = .returned (.tuple #[.pointer (some ⟨g, 0, none⟩), .nilIface]) ∧ w.heap.size ≤ g ∧ UrlIs w' g (urlBA u)
theorem pa_no {o : Option NU.PU} {w w' : World} {e : Ending} {v : Value} (ho : o = none) (hv : ErrV v) (he : e = .returned (.tuple #[.pointer none, v])) (hf : Fr w w') : PaPost o w e w' := by
  subst ho; exact ⟨hf, v, hv, he⟩
theorem pa_yes {o : Option NU.PU} {w w' : World} {e : Ending} {u : NU.PU} {g : Nat} {U : UrlR} (ho : o = some u) (he : e = .returned (.tuple #[.pointer (some ⟨g, 0, none⟩), .nilIface])) (hg : w.heap.size ≤ g) (hu : UrlIs w' g U) (hU : U = urlBA u) (hf : Fr w w') : PaPost o w e w' := by
  subst ho hU; exact ⟨hf, g, he, hg, hu⟩
theorem urlNew (w : World) : UrlIs (w.alloc (.cells #[.string ByteArray.empty, .string ByteArray.empty, .pointer none, .string ByteArray.empty, .string ByteArray.empty, .string ByteArray.empty, .string ByteArray.empty, .string ByteArray.empty, .string ByteArray.empty, .bool false, .bool false] 64)) w.heap.size (urlBA {}) := by
  refine ⟨.pointer none, rfl, ?_⟩
  exact Blk.new w _ _

set_option maxRecDepth 100000 in
set_option maxHeartbeats 4000000 in
theorem parse_ctl (raw : ByteArray) (via : Bool) (hs : raw.size ≤ 137438953472) (h : NU.ctl (L raw) = true) (w : World) :
    Calls Tryz.prog 33 #[.string raw, .bool via] w fun e w' => PaPost (NU.parse0 (L raw) via) w e w' := by
  have HF : Hid (NU.parse0 (L raw) via = none) := by show _ = _; rw [NU.parse0, if_pos h]
  have C := Lib.hid (ctl_any raw (by omega))
  rw [h] at C
  have CN := Lib.hid (fun s W => errNew_any s W)
  clear h
  go_enter Tryz.func33, Tryz.ntmps33
  go_wp2_with (first
    | (go_at_call 52; (with_reducible refine (C.out _).mono ?_); rintro e w1 ⟨rfl, rfl⟩)
    | (go_at_call 53; (with_reducible refine (CN.out _ _).mono ?_); rintro e w4 ⟨⟨v, hv, rfl⟩, hf4⟩; replace hv := Lib.hid hv))
  go_ret2
  exact pa_no HF.out hv.out.v rfl hf4
set_option maxRecDepth 100000 in
set_option maxHeartbeats 4000000 in
theorem parse_star (raw : ByteArray) (via : Bool) (h : L raw = [42]) (w : World) :
    Calls Tryz.prog 33 #[.string raw, .bool via] w fun e w' => PaPost (NU.parse0 (L raw) via) w e w' := by
  have hs : raw.size = 1 := by rw [← L_length, h]; rfl
  have C := Lib.hid (ctl_any raw (by omega))
  have HF : Hid (NU.parse0 (L raw) via = some { path := [42] }) := by show _ = _; rw [h, NU.parse0]; rfl
  rw [h, show NU.ctl [42] = false from rfl] at C
  have q0 := L_nempty (show ¬ L raw = [] by rw [h]; simp)
  have q1 := eq_lits raw _ h
  have u0 := Lib.hid (urlNew w)
  have c4 := (u0.out.cells).2.2.2.1
  have f4 := u0.out.frozen 4
  clear h
  go_enter Tryz.func33, Tryz.ntmps33
  go_wp2_with (go_at_call 52; (with_reducible refine (C.out _).mono ?_); rintro e w1 ⟨rfl, rfl⟩)
  go_ret2
  exact pa_yes (U := urlBA { path := [42] }) HF.out rfl (Nat.le_refl _) ⟨.pointer none, rfl, Blk.new w _ _⟩ rfl ((Fr.refl _).alloc _)
set_option maxRecDepth 100000 in
set_option maxHeartbeats 4000000 in
theorem parse_empty (raw : ByteArray) (h : L raw = []) (w : World) :
    Calls Tryz.prog 33 #[.string raw, .bool true] w fun e w' => PaPost (NU.parse0 (L raw) true) w e w' := by
  have hs : raw.size = 0 := by rw [← L_length, h]; rfl
  have C := Lib.hid (ctl_any raw (by omega))
  have HF : Hid (NU.parse0 (L raw) true = none) := by show _ = _; rw [h, NU.parse0]; rfl
  rw [h, show NU.ctl [] = false from rfl] at C
  have q0 := L_empty h
  have CN := Lib.hid (fun s W => errNew_any s W)
  clear h
  go_enter Tryz.func33, Tryz.ntmps33
  go_wp2_with (first
    | (go_at_call 52; (with_reducible refine (C.out _).mono ?_); rintro e w1 ⟨rfl, rfl⟩)
    | (go_at_call 53; (with_reducible refine (CN.out _ _).mono ?_); rintro e w4 ⟨⟨v, hv, rfl⟩, hf4⟩; replace hv := Lib.hid hv))
  go_ret2
  exact pa_no HF.out hv.out.v rfl hf4

theorem user_ptr {w : World} {v : Value} {u : Option (ByteArray × ByteArray × Bool)} (hu : UserIs w v u) : ∃ q, v = .pointer q := by
  match u, hu with
  | none, hu => exact ⟨none, hu⟩
  | some (n, p, b), ⟨g, hg, _⟩ => exact ⟨_, hg⟩
theorem user_ne {w : World} {g : Nat} {cs : Array Value} {v : Value} {u : Option (ByteArray × ByteArray × Bool)} (hb : Blk w g 64 cs) (hu : UserIs w v u) : ∀ a, v = .pointer (some a) → g ≠ a.block := by
  intro a ha e
  match u, hu with
  | none, hu => rw [show v = .pointer none from hu] at ha; cases ha
  | some (n, p, b), hu =>
    obtain ⟨k, hk, hbk⟩ := hu
    rw [ha] at hk
    cases hk
    subst e
    unfold Blk at hb hbk
    rw [hb] at hbk
    exact absurd (congrArg (fun o => match o with | some (Obj.cells _ t _) => t | _ => 0) hbk) (by show ¬ ((64 : Nat) = 89); decide)
theorem url_auth {w : World} {g : Nat} {P : NU.PU} {uv : Value} {us : NU.PUser} (h : UrlIs w g (urlBA P)) (hu : UserIs w uv (userBA us)) (ho : List UInt8) :
    UrlIs ((w.setCell ⟨g, 2, none⟩ uv).setCell ⟨g, 3, none⟩ (.string (mk ho))) g (urlBA { P with user := us, host := ho }) := by
  obtain ⟨v, h1, h2⟩ := h
  have hne := user_ne h2 hu
  refine ⟨uv, ?_, ?_⟩
  · exact (hu.far (p := ⟨g, 2, none⟩) hne uv).far (p := ⟨g, 3, none⟩) hne _
  · have := (h2.set_ 2 uv).set_ 3 (.string (mk ho))
    exact this
theorem begins2_size {r : ByteArray} (h : NU.begins (L r) [47, 47] = true) : 2 ≤ r.size := by
  have := (List.isPrefixOf_iff_prefix.1 h).length_le
  rw [L_length] at this; simpa using this
theorem au_split {r t au re : ByteArray} {i : Int} (ha : NU.authOf (L r) = L au) (hr : NU.restOf (L r) = L re)
    (h : NU.authOf (L r) = NU.cutB [47] (L t) ∧ NU.restOf (L r) = if NU.fsub [47] (L t) < 0 then [] else (L t).drop (NU.fsub [47] (L t)).toNat) (hi : i = NU.fsub [47] (L t)) :
    (i = -1 ∧ au = t ∧ re = ByteArray.empty) ∨ ∃ k : Nat, i = k ∧ au = t.extract 0 k ∧ re = t.extract k t.size := by
  have h1 := NU.fsub_lo [47] (L t)
  rw [h.1, NU.cutB] at ha
  rw [h.2] at hr
  rw [← hi] at ha hr h1
  by_cases h0 : i < 0
  · left
    rw [if_pos h0] at ha hr
    refine ⟨by omega, eq_L ha.symm, ?_⟩
    apply eq_L; rw [← hr]; rfl
  · right
    rw [if_neg h0] at ha hr
    refine ⟨i.toNat, by omega, ?_, ?_⟩
    · apply eq_L; rw [← ha, ext_to, L_mk]
    · apply eq_L; rw [← hr, ext_from, L_mk]

/-- The URL behind the scheme and the query. -/
def pu1 (raw : List UInt8) : NU.PU := { scheme := NU.lower (NU.gsS raw), rawq := NU.pQuery (NU.gsR raw), fq := NU.pq (NU.gsR raw) }
/-- Is there an authority? -/
def hasAuth (raw : List UInt8) (via : Bool) : Bool := (!(pu1 raw).scheme.isEmpty || (!via && !NU.begins (NU.pRest (NU.gsR raw)) [47, 47, 47])) && NU.begins (NU.pRest (NU.gsR raw)) [47, 47]
theorem parse0_main (raw : List UInt8) (via : Bool) (h1 : NU.ctl raw = false) (h2 : ¬ (raw = [] ∧ via = true)) (h3 : ¬ raw = [42]) (h4 : ¬ NU.gsc 0 raw = -2) :
    NU.parse0 raw via = if NU.begins (NU.pRest (NU.gsR raw)) [47] = false then
      (if (pu1 raw).scheme ≠ [] then some { pu1 raw with opq := NU.pRest (NU.gsR raw) } else if via then none else if 0 ≤ NU.fsub [58] (NU.cutB [47] (NU.pRest (NU.gsR raw))) then none else NU.parse1 (pu1 raw) (NU.pRest (NU.gsR raw)) via)
      else NU.parse1 (pu1 raw) (NU.pRest (NU.gsR raw)) via := by
  rw [NU.parse0, h1, if_neg (by simp), if_neg h2, if_neg h3, if_neg h4]; rfl

set_option maxRecDepth 100000 in
set_option maxHeartbeats 16000000 in
theorem parse_rest (raw : ByteArray) (via : Bool) (hs : raw.size ≤ 137438953472) (h1 : NU.ctl (L raw) = false) (h2 : ¬ (L raw = [] ∧ via = true)) (h3 : ¬ L raw = [42]) (w : World) (ht : Hid (Tab w))
    (CA : Hid (hasAuth (L raw) via = true → ∀ (sc a : ByteArray), L sc = (pu1 (L raw)).scheme → L a = NU.authOf (NU.pRest (NU.gsR (L raw))) → ∀ W, Hid (Tab W) → Calls Tryz.prog 58 #[.string sc, .string a] W fun e w' => AuPost (NU.parseAuth (L sc) (L a)) W e w')) :
    Calls Tryz.prog 33 #[.string raw, .bool via] w fun e w' => PaPost (NU.parse0 (L raw) via) w e w' := by
  have C := Lib.hid (ctl_any raw (by omega))
  rw [h1] at C
  have CN := Lib.hid (fun s W => errNew_any s W)
  have CG := Lib.hid (fun W => getScheme_any raw W (by omega))
  have u0 := Lib.hid (urlNew w)
  have qe : raw.toList.isEmpty = false ∨ (raw.toList.isEmpty = true ∧ via = false) := by
    by_cases h0 : L raw = []
    · right; refine ⟨by rw [L_empty h0]; rfl, ?_⟩
      cases via
      · rfl
      · exact absurd ⟨h0, rfl⟩ h2
    · left; exact L_nempty h0
  have q1 := ne_lits raw _ h3
  by_cases h4 : NU.gsc 0 (L raw) = -2
  · have HF : Hid (NU.parse0 (L raw) via = none) := by show _ = _; rw [NU.parse0, h1, if_neg (by simp), if_neg h2, if_neg h3, if_pos h4]
    have H4 := Lib.hid h4
    clear h1 h2 h3 h4
    rcases qe with q0 | ⟨q0, rfl⟩
    all_goals
      go_enter Tryz.func33, Tryz.ntmps33
      go_wp2_with (first
        | (go_at_call 52; (with_reducible refine (C.out _).mono ?_); rintro e w1 ⟨rfl, rfl⟩)
        | (go_at_call 54; (with_reducible refine (CG.out _).mono ?_); rintro e w2 hg; rcases hg with ⟨hg, _⟩ | ⟨_, v, hv, rfl, hf2⟩; (exact absurd H4.out hg); have hu2 := Lib.hid (u0.out.fr hf2); have c0 := hu2.out.cells.1; have f0 := hu2.out.frozen 0; obtain ⟨tt, aa, rfl⟩ := hv))
      go_ret2
      exact pa_no HF.out ⟨_, _, rfl⟩ rfl ((((Fr.refl _).alloc _).trans hf2).setCell (Nat.le_refl _) _)
  · have HF := Lib.hid (parse0_main (L raw) via h1 h2 h3 h4)
    have H4 := Lib.hid h4
    obtain ⟨sb, hsb⟩ : ∃ sb, sb = mk (NU.gsS (L raw)) := ⟨_, rfl⟩
    obtain ⟨R, hR⟩ : ∃ R, R = mk (NU.gsR (L raw)) := ⟨_, rfl⟩
    have hsz : sb.size ≤ 137438953472 := by have := NU.gsS_len (L raw); rw [L_length] at this; rw [hsb, mk_size]; omega
    have hRz : R.size ≤ 137438953472 := by have := NU.gsR_len (L raw); rw [L_length] at this; rw [hR, mk_size]; omega
    have hasc : Hid (∀ (k : Nat) (h : k < sb.size), sb[k].toNat < 128) := by
      show ∀ k h, _
      intro k h
      have e : sb[k] ∈ L sb := by
        have : sb[k] = (L sb)[k]'(by rw [L_length]; exact h) := rfl
        rw [this]; exact List.getElem_mem _
      have e2 : L sb = NU.gsS (L raw) := by rw [hsb, L_mk]
      rw [e2] at e
      exact NU.gsS_ascii (L raw) _ e
    have CL := Lib.hid (ToLower_ascii sb (by omega) hasc)
    obtain ⟨S, hS⟩ : ∃ S, S = mk (NU.lower (L sb)) := ⟨_, rfl⟩
    have HSc : Hid ((pu1 (L raw)).scheme = L S) := by show _ = _; rw [hS, L_mk, hsb, L_mk]; rfl
    have HRl : Hid (NU.gsR (L raw) = L R) := by show _ = _; rw [hR, L_mk]
    rw [← hS] at CL
    have CG' : Hid (∀ W, Calls Tryz.prog 54 #[.string raw] W fun e w' => e = .returned (.tuple #[.string sb, .string R, .nilIface]) ∧ Fr W w') := by
      show ∀ W, _
      intro W
      refine (CG.out W).mono ?_
      rintro e w' (⟨_, he, hf⟩ | ⟨h, _⟩)
      · exact ⟨by rw [hsb, hR]; exact he, hf⟩
      · exact absurd h H4.out
    have CS := Lib.hid (fun W => HasSuffix_any R ⟨#[63]⟩ W (by omega) (by show (1 : Nat) ≤ 35184372088832; omega))
    have CK := Lib.hid (zzCount1_any R 63 (by omega))
    have CT := Lib.hid (fun W => zzCut_any R ⟨#[63]⟩ W (by omega) (by show (1 : Nat) ≤ 35184372088832; omega))
    rw [show L ⟨#[63]⟩ = [63] from rfl] at CS CT
    clear h1 h2 h3 h4 hsb hR hS CG
    go_enter Tryz.func33, Tryz.ntmps33
    go_upto_region 5 with (go_at_call 52; (with_reducible refine (C.out _).mono ?_); rintro e w1 ⟨rfl, rfl⟩)
    go_cut [22] (fun c wx => c = .bool false ∧ w = wx)
    case first =>
      as_aux_lemma =>
        rcases qe with q0 | ⟨q0, rfl⟩
        · go_wp2
          go_meet
          case rel => exact ⟨rfl, rfl⟩
        · go_wp2
          go_meet
          case rel => exact ⟨rfl, rfl⟩
    case rest =>
      obtain ⟨rfl, rfl⟩ := hcut
      go_upto_region 15 with (first
        | (go_at_call 54; (with_reducible refine (CG'.out _).mono ?_); rintro e w2 ⟨rfl, hf2⟩; have hu2 := Lib.hid (u0.out.fr hf2); have c0 := hu2.out.cells.1; have f0 := hu2.out.frozen 0)
        | (go_at_call 55; (with_reducible refine (CL.out _).mono ?_); rintro e w3 ⟨rfl, hf3⟩; have hu3 := Lib.hid ((UrlIs.set_ (U' := { urlBA {} with scheme := sb }) hu2.out 0 (.string sb) (fun v => rfl) rfl).fr hf3); have hF3 : Fr w w3 := ((((Fr.refl _).alloc _).trans hf2).setCell (Nat.le_refl _) _).trans hf3; have c0' := hu3.out.cells.1; have f0' := hu3.out.frozen 0))
      go_cut [57] (fun c wx => c = .bool (NU.pq (L R)) ∧ Fr w wx ∧ Hid (UrlIs wx w.heap.size { urlBA {} with scheme := S }))
      case first =>
        as_aux_lemma =>
          have hu4 := Lib.hid (UrlIs.set_ (U' := { urlBA {} with scheme := S }) hu3.out 0 (.string S) (fun v => rfl) rfl)
          have hF4 := hF3.setCell (p := ⟨w.heap.size, 0, none⟩) (Nat.le_refl _) (.string S)
          cases he : NU.ends (L R) [63]
          · rw [he] at CS
            have HQ : Hid (NU.pq (L R) = false) := by show _ = _; rw [NU.pq, he]; rfl
            clear he
            go_wp2_with (go_at_call 56; (with_reducible refine (CS.out _).mono ?_); rintro e w4 ⟨rfl, rfl⟩)
            go_meet
            case rel => exact ⟨by rw [HQ.out], hF4, hu4⟩
          · rw [he] at CS
            have HQ : Hid (NU.pq (L R) = (((NU.cnt 63 (L R) : Nat) : Int) == 1)) := by
              show _ = _; rw [NU.pq, he, Bool.true_and, Bool.eq_iff_iff]; simp; omega
            clear he
            go_wp2_with (first
              | (go_at_call 56; (with_reducible refine (CS.out _).mono ?_); rintro e w4 ⟨rfl, rfl⟩)
              | (go_at_call 57; (with_reducible refine (CK.out _).mono ?_); rintro e w4 ⟨rfl, rfl⟩))
            go_meet
            case rel => exact ⟨by rw [HQ.out], hF4, hu4⟩
      case rest =>
      obtain ⟨rfl, hF5, hu5⟩ := hcut
      clear hF3 hu3 CS CK
      go_upto_if 57 with fail
      go_cut [6] (fun c wx => c = .string (mk (NU.pRest (L R))) ∧ Fr w wx ∧ Hid (UrlIs wx w.heap.size (urlBA (pu1 (L raw)))))
      case first =>
        as_aux_lemma =>
          have c6 := hu5.out.cells.2.2.2.2.2.1
          have f6 := hu5.out.frozen 6
          have c9 := hu5.out.cells.2.2.2.2.2.2.2.2.1
          have f9 := hu5.out.frozen 9
          cases hq : NU.pq (L R)
          · have HU : Hid (urlBA (pu1 (L raw)) = { urlBA {} with scheme := S, rawQuery := mk (NU.cutA [63] (L R)) }) := by
              show _ = _; unfold urlBA; rw [HSc.out]; unfold pu1; rw [HRl.out, NU.pQuery, hq]; simp [mk_L, userBA]
            have HP : Hid (NU.pRest (L R) = NU.cutB [63] (L R)) := by show _ = _; rw [NU.pRest, hq]; rfl
            clear hq
            go_wp2_with (go_at_call 32; (with_reducible refine (CT.out _).mono ?_); rintro e w4 ⟨rfl, n4, rfl⟩)
            go_meet
            case rel => exact ⟨by rw [HP.out], (hF5.drewN _).setCell (Nat.le_refl _) _, by rw [HU.out]; exact Lib.hid (UrlIs.set_ (hu5.out.drewN _) 6 _ (fun v => rfl) rfl)⟩
          · have HU : Hid (urlBA (pu1 (L raw)) = { urlBA {} with scheme := S, forceQuery := true }) := by
              show _ = _; unfold urlBA; rw [HSc.out]; unfold pu1; rw [HRl.out, NU.pQuery, hq]; simp [mk_L, userBA]
            have hR1 : 0 < R.size := by
              rw [← L_length]
              refine NU.ends_pos _ ?_
              have := hq; unfold NU.pq at this; rw [Bool.and_eq_true] at this; exact this.1
            have HP : Hid (mk (NU.pRest (L R)) = R.extract 0 (R.size - 1)) := by show _ = _; rw [NU.pRest, hq, if_pos rfl, ext_to, L_length]
            have e1 : (R.size : Int) - 1 = ((R.size - 1 : Nat) : Int) := by omega
            clear hq
            go_wp2
            go_meet
            case rel => exact ⟨by rw [HP.out], hF5.setCell (Nat.le_refl _) _, by rw [HU.out]; exact Lib.hid (UrlIs.set_ hu5.out 9 _ (fun v => rfl) rfl)⟩
      case rest =>
      obtain ⟨rfl, hF6, hu6⟩ := hcut
      clear hF5 hu5 CT
      obtain ⟨r, hr⟩ : ∃ r, r = mk (NU.pRest (L R)) := ⟨_, rfl⟩
      have hrl : NU.pRest (NU.gsR (L raw)) = L r := by rw [hr, L_mk, HRl.out]
      have hrz : r.size ≤ 137438953472 := by have := NU.pRest_len (L R); rw [L_length] at this; rw [hr, mk_size]; omega
      have HF2 := HF.out
      rw [hrl] at HF2
      have CA2 := CA.out
      unfold hasAuth at CA2
      rw [hrl] at CA2
      rw [HSc.out] at CA2
      replace HF2 := Lib.hid HF2
      replace CA2 := Lib.hid CA2
      obtain ⟨P1, hP1⟩ : ∃ P1, P1 = pu1 (L raw) := ⟨_, rfl⟩
      rw [← hP1] at HF2 hu6
      have HP1 : Hid (P1.scheme = L S ∧ P1.opq = [] ∧ P1.user = none ∧ P1.oh = false) := by show _ ∧ _; rw [hP1]; exact ⟨HSc.out, rfl, rfl, rfl⟩
      rw [← hr]
      have CP1 := Lib.hid (fun W => HasPrefix_any r ⟨#[47]⟩ W (by omega) (by show (1 : Nat) ≤ 35184372088832; omega))
      have CZ := Lib.hid (fun W => zzCut_any r ⟨#[47]⟩ W (by omega) (by show (1 : Nat) ≤ 35184372088832; omega))
      obtain ⟨sg, hsg⟩ : ∃ sg, sg = mk (NU.cutB [47] (L r)) := ⟨_, rfl⟩
      have hsgz : sg.size ≤ 137438953472 := by have := NU.cutB_len [47] (L r); rw [L_length] at this; rw [hsg, mk_size]; omega
      have CO := Lib.hid (zzContains_any sg ⟨#[58]⟩ (by omega) (by show (1 : Nat) ≤ 35184372088832; omega))
      rw [show L ⟨#[47]⟩ = [47] from rfl] at CP1 CZ
      rw [show L ⟨#[58]⟩ = [58] from rfl] at CO
      have hsl : NU.cutB [47] (L r) = L sg := by rw [hsg, L_mk]
      rw [← hsg] at CZ
      have HF3 := HF2.out
      rw [hsl] at HF3
      replace HF3 := Lib.hid HF3
      have c0 := hu6.out.cells.1
      have e0 : (urlBA P1).scheme = S := by show mk P1.scheme = S; rw [HP1.out.1, mk_L]
      rw [e0] at c0
      clear HF HF2 hr hrl hsg hsl e0 hP1 HRl CA
      go_upto_if 77 with (go_at_call 46; (with_reducible refine (CP1.out _).mono ?_); rintro e w4 ⟨rfl, rfl⟩)
      go_cut [6] (fun c wx => c = .string r ∧ Fr w wx ∧ Hid (UrlIs wx w.heap.size (urlBA P1)) ∧ Hid (NU.parse0 (L raw) via = NU.parse1 P1 (L r) via))
      case first =>
        as_aux_lemma =>
          cases hb : NU.begins (L r) [47]
          · have c1 := hu6.out.cells.2.1
            have f1 := hu6.out.frozen 1
            by_cases hS0 : L S = []
            · have q0 := L_empty hS0
              cases via
              · by_cases hc : 0 ≤ NU.fsub [58] (L sg)
                · have HN : Hid (NU.parse0 (L raw) false = none) := by show _ = _; rw [HF3.out, if_pos hb, if_neg (by rw [HP1.out.1, hS0]; simp), if_neg (by simp), if_pos hc]
                  rw [decide_eq_true hc] at CO
                  clear hb hS0 hc
                  go_wp2_with (first
                    | (go_at_call 32; (with_reducible refine (CZ.out _).mono ?_); rintro e w4 ⟨rfl, n4, rfl⟩)
                    | (go_at_call 48; (with_reducible refine (CO.out _).mono ?_); rintro e w4 ⟨rfl, rfl⟩)
                    | (go_at_call 53; (with_reducible refine (CN.out _ _).mono ?_); rintro e w5 ⟨⟨v, hv, rfl⟩, hf5⟩; replace hv := Lib.hid hv))
                  go_ret2
                  exact pa_no HN.out hv.out.v rfl ((hF6.drewN _).trans hf5)
                · have HN : Hid (NU.parse0 (L raw) false = NU.parse1 P1 (L r) false) := by show _ = _; rw [HF3.out, if_pos hb, if_neg (by rw [HP1.out.1, hS0]; simp), if_neg (by simp), if_neg hc]
                  rw [decide_eq_false hc] at CO
                  clear hb hS0 hc
                  go_wp2_with (first
                    | (go_at_call 32; (with_reducible refine (CZ.out _).mono ?_); rintro e w4 ⟨rfl, n4, rfl⟩)
                    | (go_at_call 48; (with_reducible refine (CO.out _).mono ?_); rintro e w4 ⟨rfl, rfl⟩))
                  go_meet
                  case rel => exact ⟨rfl, hF6.drewN _, Lib.hid (hu6.out.drewN _), HN⟩
              · have HN : Hid (NU.parse0 (L raw) true = none) := by show _ = _; rw [HF3.out, if_pos hb, if_neg (by rw [HP1.out.1, hS0]; simp), if_pos rfl]
                clear hb hS0
                go_wp2_with (go_at_call 53; (with_reducible refine (CN.out _ _).mono ?_); rintro e w5 ⟨⟨v, hv, rfl⟩, hf5⟩; replace hv := Lib.hid hv)
                go_ret2
                exact pa_no HN.out hv.out.v rfl (hF6.trans hf5)
            · have q0 := L_nempty hS0
              have HN : Hid (NU.parse0 (L raw) via = some { P1 with opq := L r }) := by show _ = _; rw [HF3.out, if_pos hb, if_pos (by rw [HP1.out.1]; exact hS0)]
              have HUo : Hid ({ urlBA P1 with opq := r } = urlBA { P1 with opq := L r }) := by show _ = _; unfold urlBA; rw [mk_L]
              clear hb hS0
              go_wp2
              go_ret2
              exact pa_yes (U := { urlBA P1 with opq := r }) HN.out rfl (Nat.le_refl _) (UrlIs.set_ hu6.out 1 _ (fun v => rfl) rfl) HUo.out (hF6.setCell (Nat.le_refl _) _)
          · have HN : Hid (NU.parse0 (L raw) via = NU.parse1 P1 (L r) via) := by show _ = _; rw [HF3.out, if_neg (by rw [hb]; simp)]
            clear hb
            go_wp2
            go_meet
            case rel => exact ⟨rfl, hF6, hu6, HN⟩
      case rest =>
      obtain ⟨rfl, hF7, hu7, HN⟩ := hcut
      clear hF6 hu6 c0 HF3 CZ CO
      have c0 := hu7.out.cells.1
      have e0 : (urlBA P1).scheme = S := by show mk P1.scheme = S; rw [HP1.out.1, mk_L]
      rw [e0] at c0
      clear e0
      obtain ⟨A, hA⟩ : ∃ A, A = ((!(L S).isEmpty || (!via && !NU.begins (L r) [47, 47, 47])) && NU.begins (L r) [47, 47]) := ⟨_, rfl⟩
      have CA3 := CA2.out
      rw [← hA] at CA3
      replace CA3 := Lib.hid CA3
      have HA := Lib.hid hA
      have CP2 := Lib.hid (fun W => HasPrefix_any r ⟨#[47, 47]⟩ W (by omega) (by show (2 : Nat) ≤ 35184372088832; omega))
      have CP3 := Lib.hid (fun W => HasPrefix_any r ⟨#[47, 47, 47]⟩ W (by omega) (by show (3 : Nat) ≤ 35184372088832; omega))
      rw [show L ⟨#[47, 47]⟩ = [47, 47] from rfl] at CP2
      rw [show L ⟨#[47, 47, 47]⟩ = [47, 47, 47] from rfl] at CP3
      clear hA CA2
      go_upto_region 28 with fail
      go_cut [116] (fun c wx => c = .bool A ∧ Fr w wx ∧ Hid (UrlIs wx w.heap.size (urlBA P1)))
      case first =>
        as_aux_lemma =>
          by_cases hS0 : L S = []
          · have q0 := L_empty hS0
            cases via
            · have HA2 : Hid (A = (!NU.begins (L r) [47, 47, 47] && NU.begins (L r) [47, 47])) := by show _ = _; rw [HA.out, hS0]; rfl
              clear hS0
              cases h3 : NU.begins (L r) [47, 47, 47]
              · rw [h3] at CP3 HA2
                clear h3
                go_wp2_with (first
              | (go_at_call 46; (with_reducible refine (CP3.out _).mono ?_); rintro e w4 ⟨rfl, rfl⟩)
              | (go_at_call 46; (with_reducible refine (CP2.out _).mono ?_); rintro e w4 ⟨rfl, rfl⟩))
                go_meet
                case rel => exact ⟨by rw [HA2.out]; rfl, hF7, hu7⟩
              · rw [h3] at CP3 HA2
                clear h3
                go_wp2_with (first
              | (go_at_call 46; (with_reducible refine (CP3.out _).mono ?_); rintro e w4 ⟨rfl, rfl⟩)
              | (go_at_call 46; (with_reducible refine (CP2.out _).mono ?_); rintro e w4 ⟨rfl, rfl⟩))
                go_meet
                case rel => exact ⟨by rw [HA2.out]; rfl, hF7, hu7⟩
            · have HA2 : Hid (A = false) := by show _ = _; rw [HA.out, hS0]; rfl
              clear hS0
              go_wp2
              go_meet
              case rel => exact ⟨by rw [HA2.out], hF7, hu7⟩
          · have q0 := L_nempty hS0
            have HA2 : Hid (A = NU.begins (L r) [47, 47]) := by
              show _ = _; rw [HA.out]
              cases hl : L S with
              | nil => exact absurd hl hS0
              | cons a b => rfl
            clear hS0
            go_wp2_with (go_at_call 46; (with_reducible refine (CP2.out _).mono ?_); rintro e w4 ⟨rfl, rfl⟩)
            go_meet
            case rel => exact ⟨by rw [HA2.out], hF7, hu7⟩
      case rest =>
      obtain ⟨rfl, hF8, hu8⟩ := hcut
      clear hF7 hu7 c0
      have c0 := hu8.out.cells.1
      have e0 : (urlBA P1).scheme = S := by show mk P1.scheme = S; rw [HP1.out.1, mk_L]
      rw [e0] at c0
      clear e0
      go_upto_if 116 with fail
      go_cut [6] (fun c wx => ∃ (P2 : NU.PU) (r2 : ByteArray), c = .string r2 ∧ r2.size ≤ 137438953472 ∧ Fr w wx ∧ Hid (UrlIs wx w.heap.size (urlBA P2)) ∧ Hid (NU.parse0 (L raw) via = NU.setPath P2 (L r2)))
      case first =>
        as_aux_lemma =>
          cases A
          · have c10 := hu8.out.cells.2.2.2.2.2.2.2.2.2
            have f10 := hu8.out.frozen 10
            have HN2 : Hid (NU.parse0 (L raw) via = NU.setPath { P1 with oh := !(L S).isEmpty && NU.begins (L r) [47] } (L r)) := by
              show _ = _; rw [HN.out, NU.parse1, HP1.out.1, ← HA.out]; rfl
            by_cases hS0 : L S = []
            · have q0 := L_empty hS0
              have HN3 : Hid (NU.parse0 (L raw) via = NU.setPath P1 (L r)) := by
                show _ = _
                have h4 := HP1.out.2.2.2
                rw [HN2.out, hS0]
                have : ({ P1 with oh := !([] : List UInt8).isEmpty && NU.begins (L r) [47] } : NU.PU) = P1 := by
                  cases P1; simp at h4 ⊢; exact h4
                rw [this]
              clear hS0 HN2
              go_wp2
              go_meet
              case rel => exact ⟨P1, r, rfl, hrz, hF8, hu8, HN3⟩
            · have q0 := L_nempty hS0
              have hne : (L S).isEmpty = false := by cases hl : L S with
                | nil => exact absurd hl hS0
                | cons a b => rfl
              cases hb : NU.begins (L r) [47]
              · rw [hb] at CP1
                have HN3 : Hid (NU.parse0 (L raw) via = NU.setPath P1 (L r)) := by
                  show _ = _
                  have h4 := HP1.out.2.2.2
                  rw [HN2.out, hb, hne]
                  have : ({ P1 with oh := !false && false } : NU.PU) = P1 := by
                    cases P1; simp at h4 ⊢; exact h4
                  rw [this]
                clear hS0 HN2 hne hb
                go_wp2_with (go_at_call 46; (with_reducible refine (CP1.out _).mono ?_); rintro e w4 ⟨rfl, rfl⟩)
                go_meet
                case rel => exact ⟨P1, r, rfl, hrz, hF8, hu8, HN3⟩
              · rw [hb] at CP1
                have HN3 : Hid (NU.parse0 (L raw) via = NU.setPath { P1 with oh := true } (L r)) := by
                  show _ = _; rw [HN2.out, hb, hne]; rfl
                clear hS0 HN2 hne hb
                go_wp2_with (go_at_call 46; (with_reducible refine (CP1.out _).mono ?_); rintro e w4 ⟨rfl, rfl⟩)
                go_meet
                case rel => exact ⟨{ P1 with oh := true }, r, rfl, hrz, hF8.setCell (Nat.le_refl _) _, Lib.hid (UrlIs.set_ (U' := urlBA { P1 with oh := true }) hu8.out 10 _ (fun v => rfl) rfl), HN3⟩
          · have hbb : NU.begins (L r) [47, 47] = true := by
              have := HA.out; rw [eq_comm, Bool.and_eq_true] at this; exact this.2
            have hr2 := begins2_size hbb
            have HN2 : Hid (NU.parse0 (L raw) via = match NU.parseAuth (L S) (NU.authOf (L r)) with | none => none | some (us, h) => NU.setPath { P1 with user := us, host := h } (NU.restOf (L r))) := by
              show _ = _; rw [HN.out, NU.parse1, HP1.out.1, ← HA.out]; rfl
            obtain ⟨t, hT⟩ : ∃ t, t = r.extract 2 r.size := ⟨_, rfl⟩
            have htl : L t = (L r).drop 2 := by rw [hT, ext_from, L_mk]
            have htz : t.size ≤ 137438953472 := by rw [← L_length, htl, List.length_drop, L_length]; omega
            have CI := Lib.hid (fun W => zzIndex_any t ⟨#[47]⟩ W (by omega) (by show (1 : Nat) ≤ 35184372088832; omega))
            rw [show L ⟨#[47]⟩ = [47] from rfl] at CI
            have g1 := NU.fsub_lo [47] (L t)
            have g2 := NU.fsub_hi [47] (L t)
            simp only [L_length, List.length_cons, List.length_nil] at g2
            have HAO : Hid (NU.authOf (L r) = NU.cutB [47] (L t) ∧ NU.restOf (L r) = if NU.fsub [47] (L t) < 0 then [] else (L t).drop (NU.fsub [47] (L t)).toNat) := by
              show _ ∧ _; rw [NU.authOf, NU.restOf, htl]; exact ⟨rfl, rfl⟩
            obtain ⟨i, hi⟩ : ∃ i, i = NU.fsub [47] (L t) := ⟨_, rfl⟩
            have HI := Lib.hid hi
            rw [← hi] at CI g1 g2
            obtain ⟨au, hau⟩ : ∃ au, au = mk (NU.authOf (L r)) := ⟨_, rfl⟩
            obtain ⟨re, hre⟩ : ∃ re, re = mk (NU.restOf (L r)) := ⟨_, rfl⟩
            have hrez : re.size ≤ 137438953472 := by
              rw [hre, mk_size, HAO.out.2]; split
              · simp
              · rw [List.length_drop, L_length]; omega
            have CPA := Lib.hid (CA3.out rfl S au rfl (by rw [hau, L_mk]))
            have hal : NU.authOf (L r) = L au := by rw [hau, L_mk]
            have hrl : NU.restOf (L r) = L re := by rw [hre, L_mk]
            rw [hal, hrl] at HN2
            have hst := au_split hal hrl HAO.out HI.out
            have hT' := hT.symm
            have c2 : ∃ v, wc.cell? ⟨w.heap.size, 2, none⟩ = some v := by obtain ⟨v, _, hb⟩ := hu8.out; exact ⟨_, hb.cell 2⟩
            obtain ⟨v2, c2⟩ := c2
            have c3 := hu8.out.cells.2.2.1
            have f2 := hu8.out.frozen 2
            have f3 := hu8.out.frozen 3
            have CPB : Hid (∀ W, Hid (Tab W) → Calls Tryz.prog 58 #[.string S, .string au] W fun e w' => AuPost (NU.parseAuth (L S) (L au)) W e w') := CPA
            clear hau hre hal hrl HAO hi htl hT CA3 CPA hbb HI
            cases ho : NU.parseAuth (L S) (L au) with
            | none =>
              have HZ : Hid (NU.parse0 (L raw) via = none) := by show _ = _; rw [HN2.out, ho]
              rw [ho] at CPB
              clear HN2 ho
              rcases hst with ⟨hi1, ha1, hr1⟩ | ⟨k, hk, ha1, hr1⟩
              · subst hi1 ha1
                subst hr1
                go_wp2_with (first
                  | (go_at_call 51; (with_reducible refine (CI.out _).mono ?_); rintro e w4 ⟨rfl, rfl⟩)
                  | (go_at_call 58; (with_reducible refine (CPB.out _ (Lib.hid (ht.out.fr (hF8)))).mono ?_); rintro e w5 ⟨hf5, v, hv, rfl⟩; obtain ⟨tt, xx, rfl⟩ := hv; have hu9 := Lib.hid ((hu8.out).fr hf5); have c2' : ∃ v, w5.cell? ⟨w.heap.size, 2, none⟩ = some v := (by obtain ⟨v, _, hb⟩ := hu9.out; exact ⟨_, hb.cell 2⟩); obtain ⟨v2', c2''⟩ := c2'; have c3' := hu9.out.cells.2.2.1; have f2' := hu9.out.frozen 2; have f3' := hu9.out.frozen 3))
                go_ret2
                exact pa_no HZ.out ⟨_, _, rfl⟩ rfl (((hF8.trans hf5).setCell (Nat.le_refl _) _).setCell (Nat.le_refl _) _)
              · subst hk
                have k1 : (k : Int) ≤ (t.size : Int) := by omega
                have k2 : (0 : Int) ≤ (k : Int) := by omega
                have k3 : k ≤ t.size := by omega
                have ha1' := ha1.symm
                have hr1' := hr1.symm
                clear ha1 hr1
                go_wp2_with (go_at_call 51; (with_reducible refine (CI.out _).mono ?_); rintro e w4 ⟨rfl, rfl⟩)
                go_region
                all_goals go_wp2_with (go_at_call 58; (with_reducible refine (CPB.out _ (Lib.hid (ht.out.fr (hF8.drew)))).mono ?_); rintro e w5 ⟨hf5, v, hv, rfl⟩; obtain ⟨tt, xx, rfl⟩ := hv; have hu9 := Lib.hid ((hu8.out.drew).fr hf5); have c2' : ∃ v, w5.cell? ⟨w.heap.size, 2, none⟩ = some v := (by obtain ⟨v, _, hb⟩ := hu9.out; exact ⟨_, hb.cell 2⟩); obtain ⟨v2', c2''⟩ := c2'; have c3' := hu9.out.cells.2.2.1; have f2' := hu9.out.frozen 2; have f3' := hu9.out.frozen 3)
                all_goals go_ret2
                all_goals exact pa_no HZ.out ⟨_, _, rfl⟩ rfl (((hF8.drew.trans hf5).setCell (Nat.le_refl _) _).setCell (Nat.le_refl _) _)
            | some p =>
              obtain ⟨us, ho2⟩ := p
              have HZ : Hid (NU.parse0 (L raw) via = NU.setPath { P1 with user := us, host := ho2 } (L re)) := by show _ = _; rw [HN2.out, ho]
              rw [ho] at CPB
              clear HN2 ho
              rcases hst with ⟨hi1, ha1, hr1⟩ | ⟨k, hk, ha1, hr1⟩
              · subst hi1 ha1
                subst hr1
                go_wp2_with (first
                  | (go_at_call 51; (with_reducible refine (CI.out _).mono ?_); rintro e w4 ⟨rfl, rfl⟩)
                  | (go_at_call 58; (with_reducible refine (CPB.out _ (Lib.hid (ht.out.fr (hF8)))).mono ?_); rintro e w5 ⟨hf5, uv, rfl, huv⟩; obtain ⟨q, rfl⟩ := user_ptr huv; replace huv := Lib.hid huv; have hu9 := Lib.hid ((hu8.out).fr hf5); have c2' : ∃ v, w5.cell? ⟨w.heap.size, 2, none⟩ = some v := (by obtain ⟨v, _, hb⟩ := hu9.out; exact ⟨_, hb.cell 2⟩); obtain ⟨v2', c2''⟩ := c2'; have c3' := hu9.out.cells.2.2.1; have f2' := hu9.out.frozen 2; have f3' := hu9.out.frozen 3))
                go_meet
                case rel => exact ⟨{ P1 with user := us, host := ho2 }, _, rfl, hrez, ((hF8.trans hf5).setCell (Nat.le_refl _) _).setCell (Nat.le_refl _) _, Lib.hid (url_auth hu9.out huv.out ho2), HZ⟩
              · subst hk
                have k1 : (k : Int) ≤ (t.size : Int) := by omega
                have k2 : (0 : Int) ≤ (k : Int) := by omega
                have k3 : k ≤ t.size := by omega
                have ha1' := ha1.symm
                have hr1' := hr1.symm
                clear ha1 hr1
                go_wp2_with (go_at_call 51; (with_reducible refine (CI.out _).mono ?_); rintro e w4 ⟨rfl, rfl⟩)
                go_region
                all_goals go_wp2_with (go_at_call 58; (with_reducible refine (CPB.out _ (Lib.hid (ht.out.fr (hF8.drew)))).mono ?_); rintro e w5 ⟨hf5, uv, rfl, huv⟩; obtain ⟨q, rfl⟩ := user_ptr huv; replace huv := Lib.hid huv; have hu9 := Lib.hid ((hu8.out.drew).fr hf5); have c2' : ∃ v, w5.cell? ⟨w.heap.size, 2, none⟩ = some v := (by obtain ⟨v, _, hb⟩ := hu9.out; exact ⟨_, hb.cell 2⟩); obtain ⟨v2', c2''⟩ := c2'; have c3' := hu9.out.cells.2.2.1; have f2' := hu9.out.frozen 2; have f3' := hu9.out.frozen 3)
                all_goals go_meet
                all_goals
                  case rel => exact ⟨{ P1 with user := us, host := ho2 }, _, rfl, hrez, ((hF8.drew.trans hf5).setCell (Nat.le_refl _) _).setCell (Nat.le_refl _) _, Lib.hid (url_auth hu9.out huv.out ho2), HZ⟩
      case rest =>
      obtain ⟨P2, r2, rfl, hr2, hF9, hu9, HN9⟩ := hcut
      clear hF8 hu8 c0
      cases hd : NU.dec false (L r2) with
      | none =>
        have CSP := Lib.hid (setPath_no w.heap.size (urlBA P2) r2 (by omega) hd)
        have HZ : Hid (NU.parse0 (L raw) via = none) := by show _ = _; rw [HN9.out, NU.setPath, hd]; rfl
        clear hd
        go_wp2_with (go_at_call 59; (with_reducible refine (CSP.out _ (Lib.hid (ht.out.fr hF9))).mono ?_); rintro e w5 ⟨⟨v, hv, rfl⟩, hf5⟩; obtain ⟨tt, xx, rfl⟩ := hv)
        go_ret2
        exact pa_no HZ.out ⟨_, _, rfl⟩ rfl (hF9.trans hf5)
      | some x =>
        have CSP := Lib.hid (setPath_yes w.heap.size (urlBA P2) r2 x (by omega) hd w (Nat.le_refl _))
        have HZ : Hid (NU.parse0 (L raw) via = some { P2 with path := x, rawpath := if L r2 = NU.esc 1 x then [] else L r2 }) := by show _ = _; rw [HN9.out, NU.setPath, hd]; rfl
        have HUz : Hid (setPathR (urlBA P2) x (L r2) = urlBA { P2 with path := x, rawpath := if L r2 = NU.esc 1 x then [] else L r2 }) := by
          show _ = _; unfold setPathR urlBA
          by_cases hq : L r2 = NU.esc 1 x
          · simp [hq]; rfl
          · simp [hq]
        clear hd
        go_wp2_with (go_at_call 59; (with_reducible refine (CSP.out _ hu9 hF9 ht).mono ?_); rintro e w5 ⟨rfl, hf5, hu5⟩; replace hu5 := Lib.hid hu5)
        go_ret2
        exact pa_yes HZ.out rfl (Nat.le_refl _) hu5.out HUz.out hf5
end Go.Proofs.YtibcegbacnjmfaaGreatDoor
