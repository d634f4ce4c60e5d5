import Derived.Test.YtibcegbacnjmfaaGreatDoorW36
import Derived.Test.YtibcegbacnjmfaaGreatDoorW4
namespace Go.Proofs.YtibcegbacnjmfaaGreatDoor
set_option linter.unusedVariables false
set_option linter.unusedSimpArgs false
open Go.RowKit

/-- A string and an error. -/
def PhPost (o : Option (List UInt8)) (e : Ending) : Prop :=
  match o with
  | some h => e = .returned (.tuple #[.string (mk h), .nilIface])
  | none => ∃ v, ErrV v ∧ e = .returned (.tuple #[.string ⟨#[]⟩, v])
theorem ph_none {e : Ending} {v : Value} {o : Option (List UInt8)} (ho : o = none) (hv : ErrV v) (he : e = .returned (.tuple #[.string ⟨#[]⟩, v])) : PhPost o e := by subst ho; exact ⟨v, hv, he⟩
theorem ph_some {e : Ending} {s : ByteArray} {o : Option (List UInt8)} (ho : o = some (L s)) (he : e = .returned (.tuple #[.string s, .nilIface])) : PhPost o e := by subst ho; show e = _; rw [he, mk_L]
theorem last_of_first (c : UInt8) (s : List UInt8) (h : 0 ≤ NU.fsub [c] s) : 0 ≤ NU.lastIdx c s := by
  induction s with
  | nil => rw [NU.fsub_one_nil] at h; exact absurd h (by decide)
  | cons d r ih =>
    rw [NU.fsub_one_cons] at h
    have h1 := NU.lastIdx_lo c r
    unfold NU.lastIdx
    split
    · omega
    · rename_i hn
      split
      · omega
      · rename_i hd
        rw [if_neg hd] at h
        have : ¬ 0 ≤ NU.fsub [c] r := fun hc => hn (ih hc)
        rw [if_pos (by omega)] at h; omega

def noPct (s : ByteArray) : Prop := ∀ (k : Nat) (h : k < s.size), s[k] ≠ 37
theorem noPct_mem {s : ByteArray} (h : noPct s) : ∀ c ∈ L s, c ≠ 37 := by
  intro c hc
  obtain ⟨k, hk, rfl⟩ := List.mem_iff_getElem.1 hc
  exact h k (by simpa using hk)

set_option maxRecDepth 100000 in
set_option maxHeartbeats 4000000 in
theorem parseHost_many (sc ho : ByteArray) (hs : sc.size ≤ 274877906944) (hh : ho.size ≤ 274877906944) (hl : 0 < NU.lastIdx 91 (L ho)) (w : World) (ht : Hid (Tab w)) :
    Calls Tryz.prog 71 #[.string sc, .string ho] w fun e w' => PhPost (NU.parseHost (L sc) (L ho)) e ∧ Fr w w' := by
  have C1 := Lib.hid (fun W => LastIndex1_any ho 91 W (by omega))
  have CN := Lib.hid (fun s W => errNew_any s W)
  have HF : Hid (NU.parseHost (L sc) (L ho) = none) := by show _ = _; rw [NU.parseHost, if_pos hl]
  obtain ⟨i, hi⟩ : ∃ i, i = NU.lastIdx 91 (L ho) := ⟨_, rfl⟩
  rw [← hi] at C1 hl
  clear hi
  go_enter Tryz.func71, Tryz.ntmps71
  go_wp2_with (first
    | (go_at_call 70; (with_reducible refine (C1.out _).mono ?_); rintro e w1 ⟨rfl, rfl⟩)
    | (go_at_call 53; (with_reducible refine (CN.out _ _).mono ?_); rintro e w1 ⟨⟨v, hv, rfl⟩, hf1⟩; replace hv := Lib.hid hv))
  go_ret2
  exact ⟨ph_none HF.out hv.out.v rfl, hf1⟩

set_option maxRecDepth 100000 in
set_option maxHeartbeats 8000000 in
theorem parseHost_plain (sc ho : ByteArray) (hs : sc.size ≤ 274877906944) (hh : ho.size ≤ 274877906944) (hl : NU.lastIdx 91 (L ho) < 0) (hnp : Hid (noPct ho)) (w : World) (ht : Hid (Tab w)) :
    Calls Tryz.prog 71 #[.string sc, .string ho] w fun e w' => PhPost (NU.parseHost (L sc) (L ho)) e ∧ Fr w w' := by
  have C1 := Lib.hid (fun W => LastIndex1_any ho 91 W (by omega))
  have C2 := Lib.hid (fun W => zzIndex_any ho ⟨#[58]⟩ W (by omega) (by show (1 : Nat) ≤ 35184372088832; omega))
  have C3 := Lib.hid (fun W => LastIndex1_any ho 58 W (by omega))
  have CN := Lib.hid (fun s W => errNew_any s W)
  have CU := Lib.hid (unescape_host ho (by omega) hnp)
  have HF : Hid (NU.parseHost (L sc) (L ho) = if NU.hostPortOk (L sc) (L ho) then (if NU.vet 4 (L ho) then some (L ho) else none) else none) := by
    show _ = _; rw [NU.parseHost, if_neg (by omega), if_neg (by omega), NU.uns_nopct _ _ (noPct_mem hnp.out)]
  obtain ⟨i, hi⟩ : ∃ i, i = NU.lastIdx 91 (L ho) := ⟨_, rfl⟩
  rw [← hi] at C1 hl
  have hlo := NU.lastIdx_lo 91 (L ho)
  rw [← hi] at hlo
  have hi1 : i = -1 := by omega
  rw [hi1] at C1
  clear hi hl hlo hi1
  have f1 := NU.fsub_lo [58] (L ho)
  have f2 := NU.fsub_hi [58] (L ho)
  have l1 := NU.lastIdx_lo 58 (L ho)
  have l2 := NU.lastIdx_hi 58 (L ho)
  have fl := last_of_first 58 (L ho)
  rw [show L ⟨#[58]⟩ = [58] from rfl] at C2
  simp only [L_length, List.length_cons, List.length_nil] at f2 l2
  obtain ⟨fi, hfi⟩ : ∃ i, i = NU.fsub [58] (L ho) := ⟨_, rfl⟩
  obtain ⟨li, hli⟩ : ∃ i, i = NU.lastIdx 58 (L ho) := ⟨_, rfl⟩
  have HPK : Hid (NU.hostPortOk (L sc) (L ho) = (decide (fi < 0) || NU.optPort ((L ho).drop (if li ≠ fi ∧ NU.http (L sc) = false then li else fi).toNat))) := by
    show _ = _; rw [NU.hostPortOk, ← hfi, ← hli]
  rw [← hfi] at C2 f1 f2 fl
  rw [← hli] at C3 l1 l2 fl
  clear hfi hli
  by_cases h0 : fi < 0
  · have hfi1 : fi = -1 := by omega
    have HK : Hid (NU.hostPortOk (L sc) (L ho) = true) := by show _ = _; rw [HPK.out, decide_eq_true h0]; rfl
    subst hfi1
    clear h0 f1 f2 fl HPK
    cases hv : NU.vet 4 (L ho)
    all_goals
      have HV := Lib.hid hv
      clear hv
      go_enter Tryz.func71, Tryz.ntmps71
    · go_wp2_with (first
        | (go_at_call 70; (with_reducible refine (C1.out _).mono ?_); rintro e w1 ⟨rfl, rfl⟩)
        | (go_at_call 51; (with_reducible refine (C2.out _).mono ?_); rintro e w1 ⟨rfl, rfl⟩)
        | (go_at_call 60; (with_reducible refine (CU.out _ ht).mono ?_); rintro e w2 ⟨⟨ev, rfl, hev⟩, hf2⟩; rw [HV.out] at hev; obtain ⟨xx, rfl⟩ := hev; rw [HV.out]))
      go_ret2
      exact ⟨ph_none (by rw [HF.out, HK.out, HV.out]; rfl) ⟨_, _, rfl⟩ rfl, hf2⟩
    · go_wp2_with (first
        | (go_at_call 70; (with_reducible refine (C1.out _).mono ?_); rintro e w1 ⟨rfl, rfl⟩)
        | (go_at_call 51; (with_reducible refine (C2.out _).mono ?_); rintro e w1 ⟨rfl, rfl⟩)
        | (go_at_call 60; (with_reducible refine (CU.out _ ht).mono ?_); rintro e w2 ⟨⟨ev, rfl, hev⟩, hf2⟩; rw [HV.out] at hev; (have hev : ev = .nilIface := hev); subst hev; rw [HV.out]))
      go_ret2
      exact ⟨ph_some (by rw [HF.out, HK.out, HV.out]; rfl) rfl, hf2⟩
  · have l3 := fl (by omega)
    obtain ⟨a, rfl⟩ := Int.eq_ofNat_of_zero_le (show 0 ≤ fi by omega)
    obtain ⟨b, rfl⟩ := Int.eq_ofNat_of_zero_le l3
    have ha : a ≤ ho.size := by omega
    have hb : b ≤ ho.size := by omega
    have hane : ((a : Int) != -1) = true := by first | (simp; done) | (simp; omega)
    clear fl h0 f1 f2 l1 l2 l3
    have hcase : ((b : Int) = (a : Int)) ∨ (¬ (b : Int) = (a : Int) ∧ L sc = [104, 116, 116, 112]) ∨ (¬ (b : Int) = (a : Int) ∧ ¬ L sc = [104, 116, 116, 112] ∧ L sc = [104, 116, 116, 112, 115]) ∨ (¬ (b : Int) = (a : Int) ∧ ¬ L sc = [104, 116, 116, 112] ∧ ¬ L sc = [104, 116, 116, 112, 115]) := by
      by_cases e1 : (b : Int) = (a : Int)
      · exact .inl e1
      · by_cases e2 : L sc = [104, 116, 116, 112]
        · exact .inr (.inl ⟨e1, e2⟩)
        · by_cases e3 : L sc = [104, 116, 116, 112, 115]
          · exact .inr (.inr (.inl ⟨e1, e2, e3⟩))
          · exact .inr (.inr (.inr ⟨e1, e2, e3⟩))
    rcases hcase with e1 | ⟨e1, e2⟩ | ⟨e1, e2, e3⟩ | ⟨e1, e2, e3⟩
    · obtain rfl : b = a := by omega
      have HJ : NU.hostPortOk (L sc) (L ho) = NU.optPort ((L ho).drop b) := by
        rw [HPK.out, decide_eq_false (by omega), if_neg (fun h => h.1 rfl), Int.toNat_natCast]; rfl
      clear e1
      obtain ⟨p, hp⟩ : ∃ p, p = ho.extract b ho.size := ⟨_, rfl⟩
      have hpz : p.size ≤ 35184372088832 := by rw [hp, ext_from, mk_size, List.length_drop, L_length]; omega
      have HO : Hid (NU.hostPortOk (L sc) (L ho) = NU.optPort (L p)) := by show _ = _; rw [HJ, hp, ext_from, L_mk]
      have CP := Lib.hid (fun W => validOptionalPort_any p W hpz)
      have hp' := hp.symm
      clear hp HJ HPK
      cases ho1 : NU.optPort (L p)
      · rw [ho1] at CP HO
        clear ho1
        go_enter Tryz.func71, Tryz.ntmps71
        go_wp2_with (first
          | (go_at_call 70; (with_reducible refine (C1.out _).mono ?_); rintro e w1 ⟨rfl, rfl⟩)
          | (go_at_call 51; (with_reducible refine (C2.out _).mono ?_); rintro e w1 ⟨rfl, rfl⟩)
          | (go_at_call 70; (with_reducible refine (C3.out _).mono ?_); rintro e w1 ⟨rfl, rfl⟩)
          | (go_at_call 84; (with_reducible refine (CP.out _).mono ?_); rintro e w2 ⟨rfl, hf2⟩)
          | (go_at_call 53; (with_reducible refine (CN.out _ _).mono ?_); rintro e w3 ⟨⟨v, hv, rfl⟩, hf3⟩; replace hv := Lib.hid hv))
        go_ret2
        exact ⟨ph_none (by rw [HF.out, HO.out]; rfl) hv.out.v rfl, hf2.trans hf3⟩
      · rw [ho1] at CP HO
        clear ho1
        cases hv : NU.vet 4 (L ho)
        · have HV := Lib.hid hv
          clear hv
          go_enter Tryz.func71, Tryz.ntmps71
          go_wp2_with (first
            | (go_at_call 70; (with_reducible refine (C1.out _).mono ?_); rintro e w1 ⟨rfl, rfl⟩)
            | (go_at_call 51; (with_reducible refine (C2.out _).mono ?_); rintro e w1 ⟨rfl, rfl⟩)
            | (go_at_call 70; (with_reducible refine (C3.out _).mono ?_); rintro e w1 ⟨rfl, rfl⟩)
            | (go_at_call 84; (with_reducible refine (CP.out _).mono ?_); rintro e w2 ⟨rfl, hf2⟩)
            | (go_at_call 60; (with_reducible refine (CU.out _ (Lib.hid (ht.out.fr hf2))).mono ?_); rintro e w3 ⟨⟨ev, rfl, hev⟩, hf3⟩; rw [HV.out] at hev; obtain ⟨xx, rfl⟩ := hev; rw [HV.out]))
          go_ret2
          exact ⟨ph_none (by rw [HF.out, HO.out, HV.out]; rfl) ⟨_, _, rfl⟩ rfl, hf2.trans hf3⟩
        · have HV := Lib.hid hv
          clear hv
          go_enter Tryz.func71, Tryz.ntmps71
          go_wp2_with (first
            | (go_at_call 70; (with_reducible refine (C1.out _).mono ?_); rintro e w1 ⟨rfl, rfl⟩)
            | (go_at_call 51; (with_reducible refine (C2.out _).mono ?_); rintro e w1 ⟨rfl, rfl⟩)
            | (go_at_call 70; (with_reducible refine (C3.out _).mono ?_); rintro e w1 ⟨rfl, rfl⟩)
            | (go_at_call 84; (with_reducible refine (CP.out _).mono ?_); rintro e w2 ⟨rfl, hf2⟩)
            | (go_at_call 60; (with_reducible refine (CU.out _ (Lib.hid (ht.out.fr hf2))).mono ?_); rintro e w3 ⟨⟨ev, rfl, hev⟩, hf3⟩; rw [HV.out] at hev; (have hev : ev = .nilIface := hev); subst hev; rw [HV.out]))
          go_ret2
          exact ⟨ph_some (by rw [HF.out, HO.out, HV.out]; rfl) rfl, hf2.trans hf3⟩
    · have n1 : ((b : Int) != (a : Int)) = true := by simpa using e1
      have q1 := eq_lits sc _ e2
      have HJ : NU.hostPortOk (L sc) (L ho) = NU.optPort ((L ho).drop a) := by
        rw [HPK.out, decide_eq_false (by omega), if_neg (fun h => by rw [e2] at h; exact absurd h.2 (by decide)), Int.toNat_natCast]; rfl
      clear e1 e2
      obtain ⟨p, hp⟩ : ∃ p, p = ho.extract a ho.size := ⟨_, rfl⟩
      have hpz : p.size ≤ 35184372088832 := by rw [hp, ext_from, mk_size, List.length_drop, L_length]; omega
      have HO : Hid (NU.hostPortOk (L sc) (L ho) = NU.optPort (L p)) := by show _ = _; rw [HJ, hp, ext_from, L_mk]
      have CP := Lib.hid (fun W => validOptionalPort_any p W hpz)
      have hp' := hp.symm
      clear hp HJ HPK
      cases ho1 : NU.optPort (L p)
      · rw [ho1] at CP HO
        clear ho1
        go_enter Tryz.func71, Tryz.ntmps71
        go_wp2_with (first
          | (go_at_call 70; (with_reducible refine (C1.out _).mono ?_); rintro e w1 ⟨rfl, rfl⟩)
          | (go_at_call 51; (with_reducible refine (C2.out _).mono ?_); rintro e w1 ⟨rfl, rfl⟩)
          | (go_at_call 70; (with_reducible refine (C3.out _).mono ?_); rintro e w1 ⟨rfl, rfl⟩)
          | (go_at_call 84; (with_reducible refine (CP.out _).mono ?_); rintro e w2 ⟨rfl, hf2⟩)
          | (go_at_call 53; (with_reducible refine (CN.out _ _).mono ?_); rintro e w3 ⟨⟨v, hv, rfl⟩, hf3⟩; replace hv := Lib.hid hv))
        go_ret2
        exact ⟨ph_none (by rw [HF.out, HO.out]; rfl) hv.out.v rfl, hf2.trans hf3⟩
      · rw [ho1] at CP HO
        clear ho1
        cases hv : NU.vet 4 (L ho)
        · have HV := Lib.hid hv
          clear hv
          go_enter Tryz.func71, Tryz.ntmps71
          go_wp2_with (first
            | (go_at_call 70; (with_reducible refine (C1.out _).mono ?_); rintro e w1 ⟨rfl, rfl⟩)
            | (go_at_call 51; (with_reducible refine (C2.out _).mono ?_); rintro e w1 ⟨rfl, rfl⟩)
            | (go_at_call 70; (with_reducible refine (C3.out _).mono ?_); rintro e w1 ⟨rfl, rfl⟩)
            | (go_at_call 84; (with_reducible refine (CP.out _).mono ?_); rintro e w2 ⟨rfl, hf2⟩)
            | (go_at_call 60; (with_reducible refine (CU.out _ (Lib.hid (ht.out.fr hf2))).mono ?_); rintro e w3 ⟨⟨ev, rfl, hev⟩, hf3⟩; rw [HV.out] at hev; obtain ⟨xx, rfl⟩ := hev; rw [HV.out]))
          go_ret2
          exact ⟨ph_none (by rw [HF.out, HO.out, HV.out]; rfl) ⟨_, _, rfl⟩ rfl, hf2.trans hf3⟩
        · have HV := Lib.hid hv
          clear hv
          go_enter Tryz.func71, Tryz.ntmps71
          go_wp2_with (first
            | (go_at_call 70; (with_reducible refine (C1.out _).mono ?_); rintro e w1 ⟨rfl, rfl⟩)
            | (go_at_call 51; (with_reducible refine (C2.out _).mono ?_); rintro e w1 ⟨rfl, rfl⟩)
            | (go_at_call 70; (with_reducible refine (C3.out _).mono ?_); rintro e w1 ⟨rfl, rfl⟩)
            | (go_at_call 84; (with_reducible refine (CP.out _).mono ?_); rintro e w2 ⟨rfl, hf2⟩)
            | (go_at_call 60; (with_reducible refine (CU.out _ (Lib.hid (ht.out.fr hf2))).mono ?_); rintro e w3 ⟨⟨ev, rfl, hev⟩, hf3⟩; rw [HV.out] at hev; (have hev : ev = .nilIface := hev); subst hev; rw [HV.out]))
          go_ret2
          exact ⟨ph_some (by rw [HF.out, HO.out, HV.out]; rfl) rfl, hf2.trans hf3⟩
    · have n1 : ((b : Int) != (a : Int)) = true := by simpa using e1
      have q1 := ne_lits sc _ e2
      have q2 := eq_lits sc _ e3
      have HJ : NU.hostPortOk (L sc) (L ho) = NU.optPort ((L ho).drop a) := by
        rw [HPK.out, decide_eq_false (by omega), if_neg (fun h => by rw [e3] at h; exact absurd h.2 (by decide)), Int.toNat_natCast]; rfl
      clear e1 e2 e3
      obtain ⟨p, hp⟩ : ∃ p, p = ho.extract a ho.size := ⟨_, rfl⟩
      have hpz : p.size ≤ 35184372088832 := by rw [hp, ext_from, mk_size, List.length_drop, L_length]; omega
      have HO : Hid (NU.hostPortOk (L sc) (L ho) = NU.optPort (L p)) := by show _ = _; rw [HJ, hp, ext_from, L_mk]
      have CP := Lib.hid (fun W => validOptionalPort_any p W hpz)
      have hp' := hp.symm
      clear hp HJ HPK
      cases ho1 : NU.optPort (L p)
      · rw [ho1] at CP HO
        clear ho1
        go_enter Tryz.func71, Tryz.ntmps71
        go_wp2_with (first
          | (go_at_call 70; (with_reducible refine (C1.out _).mono ?_); rintro e w1 ⟨rfl, rfl⟩)
          | (go_at_call 51; (with_reducible refine (C2.out _).mono ?_); rintro e w1 ⟨rfl, rfl⟩)
          | (go_at_call 70; (with_reducible refine (C3.out _).mono ?_); rintro e w1 ⟨rfl, rfl⟩)
          | (go_at_call 84; (with_reducible refine (CP.out _).mono ?_); rintro e w2 ⟨rfl, hf2⟩)
          | (go_at_call 53; (with_reducible refine (CN.out _ _).mono ?_); rintro e w3 ⟨⟨v, hv, rfl⟩, hf3⟩; replace hv := Lib.hid hv))
        go_ret2
        exact ⟨ph_none (by rw [HF.out, HO.out]; rfl) hv.out.v rfl, hf2.trans hf3⟩
      · rw [ho1] at CP HO
        clear ho1
        cases hv : NU.vet 4 (L ho)
        · have HV := Lib.hid hv
          clear hv
          go_enter Tryz.func71, Tryz.ntmps71
          go_wp2_with (first
            | (go_at_call 70; (with_reducible refine (C1.out _).mono ?_); rintro e w1 ⟨rfl, rfl⟩)
            | (go_at_call 51; (with_reducible refine (C2.out _).mono ?_); rintro e w1 ⟨rfl, rfl⟩)
            | (go_at_call 70; (with_reducible refine (C3.out _).mono ?_); rintro e w1 ⟨rfl, rfl⟩)
            | (go_at_call 84; (with_reducible refine (CP.out _).mono ?_); rintro e w2 ⟨rfl, hf2⟩)
            | (go_at_call 60; (with_reducible refine (CU.out _ (Lib.hid (ht.out.fr hf2))).mono ?_); rintro e w3 ⟨⟨ev, rfl, hev⟩, hf3⟩; rw [HV.out] at hev; obtain ⟨xx, rfl⟩ := hev; rw [HV.out]))
          go_ret2
          exact ⟨ph_none (by rw [HF.out, HO.out, HV.out]; rfl) ⟨_, _, rfl⟩ rfl, hf2.trans hf3⟩
        · have HV := Lib.hid hv
          clear hv
          go_enter Tryz.func71, Tryz.ntmps71
          go_wp2_with (first
            | (go_at_call 70; (with_reducible refine (C1.out _).mono ?_); rintro e w1 ⟨rfl, rfl⟩)
            | (go_at_call 51; (with_reducible refine (C2.out _).mono ?_); rintro e w1 ⟨rfl, rfl⟩)
            | (go_at_call 70; (with_reducible refine (C3.out _).mono ?_); rintro e w1 ⟨rfl, rfl⟩)
            | (go_at_call 84; (with_reducible refine (CP.out _).mono ?_); rintro e w2 ⟨rfl, hf2⟩)
            | (go_at_call 60; (with_reducible refine (CU.out _ (Lib.hid (ht.out.fr hf2))).mono ?_); rintro e w3 ⟨⟨ev, rfl, hev⟩, hf3⟩; rw [HV.out] at hev; (have hev : ev = .nilIface := hev); subst hev; rw [HV.out]))
          go_ret2
          exact ⟨ph_some (by rw [HF.out, HO.out, HV.out]; rfl) rfl, hf2.trans hf3⟩
    · have n1 : ((b : Int) != (a : Int)) = true := by simpa using e1
      have q1 := ne_lits sc _ e2
      have q2 := ne_lits sc _ e3
      have HJ : NU.hostPortOk (L sc) (L ho) = NU.optPort ((L ho).drop b) := by
        rw [HPK.out, decide_eq_false (by omega), if_pos ⟨e1, by unfold NU.http; simp [e2, e3]⟩, Int.toNat_natCast]; rfl
      clear e1 e2 e3
      obtain ⟨p, hp⟩ : ∃ p, p = ho.extract b ho.size := ⟨_, rfl⟩
      have hpz : p.size ≤ 35184372088832 := by rw [hp, ext_from, mk_size, List.length_drop, L_length]; omega
      have HO : Hid (NU.hostPortOk (L sc) (L ho) = NU.optPort (L p)) := by show _ = _; rw [HJ, hp, ext_from, L_mk]
      have CP := Lib.hid (fun W => validOptionalPort_any p W hpz)
      have hp' := hp.symm
      clear hp HJ HPK
      cases ho1 : NU.optPort (L p)
      · rw [ho1] at CP HO
        clear ho1
        go_enter Tryz.func71, Tryz.ntmps71
        go_wp2_with (first
          | (go_at_call 70; (with_reducible refine (C1.out _).mono ?_); rintro e w1 ⟨rfl, rfl⟩)
          | (go_at_call 51; (with_reducible refine (C2.out _).mono ?_); rintro e w1 ⟨rfl, rfl⟩)
          | (go_at_call 70; (with_reducible refine (C3.out _).mono ?_); rintro e w1 ⟨rfl, rfl⟩)
          | (go_at_call 84; (with_reducible refine (CP.out _).mono ?_); rintro e w2 ⟨rfl, hf2⟩)
          | (go_at_call 53; (with_reducible refine (CN.out _ _).mono ?_); rintro e w3 ⟨⟨v, hv, rfl⟩, hf3⟩; replace hv := Lib.hid hv))
        go_ret2
        exact ⟨ph_none (by rw [HF.out, HO.out]; rfl) hv.out.v rfl, hf2.trans hf3⟩
      · rw [ho1] at CP HO
        clear ho1
        cases hv : NU.vet 4 (L ho)
        · have HV := Lib.hid hv
          clear hv
          go_enter Tryz.func71, Tryz.ntmps71
          go_wp2_with (first
            | (go_at_call 70; (with_reducible refine (C1.out _).mono ?_); rintro e w1 ⟨rfl, rfl⟩)
            | (go_at_call 51; (with_reducible refine (C2.out _).mono ?_); rintro e w1 ⟨rfl, rfl⟩)
            | (go_at_call 70; (with_reducible refine (C3.out _).mono ?_); rintro e w1 ⟨rfl, rfl⟩)
            | (go_at_call 84; (with_reducible refine (CP.out _).mono ?_); rintro e w2 ⟨rfl, hf2⟩)
            | (go_at_call 60; (with_reducible refine (CU.out _ (Lib.hid (ht.out.fr hf2))).mono ?_); rintro e w3 ⟨⟨ev, rfl, hev⟩, hf3⟩; rw [HV.out] at hev; obtain ⟨xx, rfl⟩ := hev; rw [HV.out]))
          go_ret2
          exact ⟨ph_none (by rw [HF.out, HO.out, HV.out]; rfl) ⟨_, _, rfl⟩ rfl, hf2.trans hf3⟩
        · have HV := Lib.hid hv
          clear hv
          go_enter Tryz.func71, Tryz.ntmps71
          go_wp2_with (first
            | (go_at_call 70; (with_reducible refine (C1.out _).mono ?_); rintro e w1 ⟨rfl, rfl⟩)
            | (go_at_call 51; (with_reducible refine (C2.out _).mono ?_); rintro e w1 ⟨rfl, rfl⟩)
            | (go_at_call 70; (with_reducible refine (C3.out _).mono ?_); rintro e w1 ⟨rfl, rfl⟩)
            | (go_at_call 84; (with_reducible refine (CP.out _).mono ?_); rintro e w2 ⟨rfl, hf2⟩)
            | (go_at_call 60; (with_reducible refine (CU.out _ (Lib.hid (ht.out.fr hf2))).mono ?_); rintro e w3 ⟨⟨ev, rfl, hev⟩, hf3⟩; rw [HV.out] at hev; (have hev : ev = .nilIface := hev); subst hev; rw [HV.out]))
          go_ret2
          exact ⟨ph_some (by rw [HF.out, HO.out, HV.out]; rfl) rfl, hf2.trans hf3⟩
end Go.Proofs.YtibcegbacnjmfaaGreatDoor
