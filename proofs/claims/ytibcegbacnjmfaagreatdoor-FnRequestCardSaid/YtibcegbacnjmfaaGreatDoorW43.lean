import Derived.Test.YtibcegbacnjmfaaGreatDoorW41
namespace Go.Proofs.YtibcegbacnjmfaaGreatDoor
set_option linter.unusedVariables false
set_option linter.unusedSimpArgs false
open Go.RowKit

set_option maxRecDepth 100000 in
set_option maxHeartbeats 2000000 in
theorem setFrag_no (g : Nat) (U : UrlR) (p : ByteArray) (hp : p.size ≤ 274877906944) (hd : NU.dec false (L p) = none) (w : World) (ht : Hid (Tab w)) :
    Calls Tryz.prog 34 #[.pointer (some ⟨g, 0, none⟩), .string p] w fun e w' => (∃ v, ErrV v ∧ e = .returned v) ∧ Fr w w' := by
  have C := Lib.hid (fun W (hW : Hid (Tab W)) => unescape_any p 64 false W hW.out (by omega) rfl rfl rfl)
  rw [hd] at C
  clear hd
  go_enter Tryz.func34, Tryz.ntmps34
  go_wp2_with (go_at_call 60; (with_reducible refine (C.out _ ht).mono ?_); rintro e w1 ⟨⟨ev, rfl, x, rfl⟩, hf1⟩)
  go_ret
  exact ⟨⟨_, ⟨_, _, rfl⟩, rfl⟩, hf1⟩
set_option maxRecDepth 100000 in
set_option maxHeartbeats 2000000 in
theorem setFrag_yes (g : Nat) (U : UrlR) (p : ByteArray) (x : List UInt8) (hp : p.size ≤ 274877906944) (hd : NU.dec false (L p) = some x) (w0 : World) (hg : w0.heap.size ≤ g) (w : World) (h : Hid (UrlIs w g U)) (hfr : Fr w0 w) (ht : Hid (Tab w0)) :
    Calls Tryz.prog 34 #[.pointer (some ⟨g, 0, none⟩), .string p] w fun e w' => e = .returned .nilIface ∧ Fr w0 w' ∧ UrlIs w' g (setFragR U x (L p)) := by
  have C := Lib.hid (fun W (hW : Hid (Tab W)) => unescape_any p 64 false W hW.out (by omega) rfl rfl rfl)
  rw [hd] at C
  have hxl : x.length ≤ p.size := by rw [← L_length]; exact NU.dec_len false _ _ _ (Nat.le_refl _) hd
  obtain ⟨xb, hxb⟩ : ∃ xb, xb = mk x := ⟨_, rfl⟩
  have hx : x = L xb := by rw [hxb, L_mk]
  have hxz : xb.size ≤ p.size := by rw [hxb, mk_size]; exact hxl
  have CE := Lib.hid (escape_m xb 64 64 rfl (by omega))
  have HU : Hid (∀ W r, UrlIs W g U → UrlIs ((W.setCell ⟨g, 5, none⟩ (.string xb)).setCell ⟨g, 8, none⟩ (.string r)) g { U with fragment := xb, rawFragment := r }) := by
    show ∀ W r, _ → _
    intro W r hW
    have h1 : UrlIs (W.setCell ⟨g, 5, none⟩ (.string xb)) g { U with fragment := xb } := hW.set_ 5 _ (fun v => rfl) rfl
    exact h1.set_ 8 _ (fun v => rfl) rfl
  have hE : Hid (setFragR U x (L p) = { U with fragment := xb, rawFragment := if L p = NU.esc 64 (L xb) then ⟨#[]⟩ else p }) := by
    show _ = _; rw [setFragR, ← hxb, hx, mk_L]
  have C' : Hid (∀ W, Hid (Tab W) → Calls Tryz.prog 60 #[.string p, .int .u8 64] W fun e w' => e = .returned (.tuple #[.string xb, .nilIface]) ∧ Fr W w') := by
    show ∀ W, _ → _
    intro W hW
    refine (C.out W hW).mono ?_
    rintro e w' ⟨⟨ev, rfl, he⟩, hf⟩
    have he : ev = .nilIface := he
    subst he
    exact ⟨by rw [hxb]; rfl, hf⟩
  clear hd hxl C hxb hx
  by_cases hq : L p = NU.esc 64 (L xb)
  · have q : (p.toList == (mk (NU.esc 64 (L xb))).toList) = true := by rw [beq_L, L_mk, hq]; simp
    have hE2 : Hid (setFragR U x (L p) = { U with fragment := xb, rawFragment := ⟨#[]⟩ }) := by show _ = _; rw [hE.out, if_pos hq]
    clear hq hE
    go_enter Tryz.func34, Tryz.ntmps34
    go_wp2_with (first
      | (go_at_call 60; (with_reducible refine (C'.out _ (Lib.hid (ht.out.fr hfr))).mono ?_); rintro e w1 ⟨rfl, hf1⟩; have hu1 := Lib.hid (h.out.fr hf1); have hF1 := hfr.trans hf1; have c4 := (hu1.out.cells).2.2.2.2.1; have f4 := hu1.out.frozen 5)
      | (go_at_call 45; (with_reducible refine (CE.out _ (Lib.hid (ht.out.fr (hF1.setCell hg _)))).mono ?_); rintro e w2 ⟨rfl, hf2⟩; have hu2 := Lib.hid ((UrlIs.set_ (U' := { U with fragment := xb }) hu1.out 5 (.string xb) (fun v => rfl) rfl).fr hf2); have hF2 := (hF1.setCell (p := ⟨g, 5, none⟩) hg (.string xb)).trans hf2; have c7 := (hu2.out.cells).2.2.2.2.2.2.2.1; have f7 := hu2.out.frozen 8))
    go_ret
    refine ⟨rfl, hF2.setCell hg _, ?_⟩
    rw [hE2.out]
    exact UrlIs.set_ hu2.out 8 _ (fun v => rfl) rfl
  · have q : (p.toList == (mk (NU.esc 64 (L xb))).toList) = false := by rw [beq_L, L_mk]; simpa using hq
    have hE2 : Hid (setFragR U x (L p) = { U with fragment := xb, rawFragment := p }) := by show _ = _; rw [hE.out, if_neg hq]
    clear hq hE
    go_enter Tryz.func34, Tryz.ntmps34
    go_wp2_with (first
      | (go_at_call 60; (with_reducible refine (C'.out _ (Lib.hid (ht.out.fr hfr))).mono ?_); rintro e w1 ⟨rfl, hf1⟩; have hu1 := Lib.hid (h.out.fr hf1); have hF1 := hfr.trans hf1; have c4 := (hu1.out.cells).2.2.2.2.1; have f4 := hu1.out.frozen 5)
      | (go_at_call 45; (with_reducible refine (CE.out _ (Lib.hid (ht.out.fr (hF1.setCell hg _)))).mono ?_); rintro e w2 ⟨rfl, hf2⟩; have hu2 := Lib.hid ((UrlIs.set_ (U' := { U with fragment := xb }) hu1.out 5 (.string xb) (fun v => rfl) rfl).fr hf2); have hF2 := (hF1.setCell (p := ⟨g, 5, none⟩) hg (.string xb)).trans hf2; have c7 := (hu2.out.cells).2.2.2.2.2.2.2.1; have f7 := hu2.out.frozen 8))
    go_ret
    refine ⟨rfl, hF2.setCell hg _, ?_⟩
    rw [hE2.out]
    exact UrlIs.set_ hu2.out 8 _ (fun v => rfl) rfl

set_option maxRecDepth 100000 in
set_option maxHeartbeats 4000000 in
theorem urlParse_any (raw : ByteArray) (hs : raw.size ≤ 137438953472)
    (CP : Hid (∀ (b : ByteArray), L b = NU.cutB [35] (L raw) → ∀ W, Hid (Tab W) → Calls Tryz.prog 33 #[.string b, .bool false] W fun e w' => PaPost (NU.parse0 (L b) false) W e w')) (w : World) (ht : Hid (Tab w)) :
    Calls Tryz.prog 20 #[.string raw] w fun e w' => PaPost (NU.parse (L raw)) w e w' := by
  have CZ := Lib.hid (fun W => zzCut_any raw ⟨#[35]⟩ W (by omega) (by show (1 : Nat) ≤ 35184372088832; omega))
  rw [show L ⟨#[35]⟩ = [35] from rfl] at CZ
  obtain ⟨b, hb⟩ : ∃ b, b = mk (NU.cutB [35] (L raw)) := ⟨_, rfl⟩
  obtain ⟨f, hf⟩ : ∃ f, f = mk (NU.cutA [35] (L raw)) := ⟨_, rfl⟩
  have hbl : L b = NU.cutB [35] (L raw) := by rw [hb, L_mk]
  have hfl : L f = NU.cutA [35] (L raw) := by rw [hf, L_mk]
  have hfz : f.size ≤ 137438953472 := by have := NU.cutA_len [35] (L raw); rw [L_length] at this; rw [hf, mk_size]; omega
  have CPb := Lib.hid (CP.out b hbl)
  have HF : Hid (NU.parse (L raw) = match NU.parse0 (L b) false with | none => none | some u => if L f = [] then some u else NU.setFrag u (L f)) := by
    show _ = _; rw [NU.parse, hbl, hfl]
    generalize NU.parse0 _ _ = A
    cases A <;> rfl
  rw [← hb, ← hf] at CZ
  clear hb hf hbl hfl CP
  cases ho : NU.parse0 (L b) false with
  | none =>
    rw [ho] at CPb HF
    clear ho
    go_enter Tryz.func20, Tryz.ntmps20
    go_wp2_with (first
      | (go_at_call 32; (with_reducible refine (CZ.out _).mono ?_); rintro e w1 ⟨rfl, n1, rfl⟩)
      | (go_at_call 33; (with_reducible refine (CPb.out _ (Lib.hid (ht.out.fr (Fr.of_q ⟨_, rfl⟩)))).mono ?_); rintro e w2 ⟨hf2, v, hv, rfl⟩; obtain ⟨tt, xx, rfl⟩ := hv))
    go_ret2
    exact pa_no HF.out ⟨_, _, rfl⟩ rfl (((Fr.of_q ⟨_, rfl⟩).trans hf2).alloc _)
  | some u =>
    rw [ho] at CPb HF
    clear ho
    by_cases h0 : L f = []
    · have q0 := L_empty h0
      have HZ : Hid (NU.parse (L raw) = some u) := by show _ = _; rw [HF.out]; simp only [h0, if_true]
      clear h0 HF
      go_enter Tryz.func20, Tryz.ntmps20
      go_wp2_with (first
        | (go_at_call 32; (with_reducible refine (CZ.out _).mono ?_); rintro e w1 ⟨rfl, n1, rfl⟩)
        | (go_at_call 33; (with_reducible refine (CPb.out _ (Lib.hid (ht.out.fr (Fr.of_q ⟨_, rfl⟩)))).mono ?_); rintro e w2 ⟨hf2, g, rfl, hg, hu⟩; replace hu := Lib.hid hu))
      go_ret2
      exact pa_yes HZ.out rfl hg hu.out rfl ((Fr.of_q ⟨_, rfl⟩).trans hf2)
    · have q0 := L_nempty h0
      have HZ : Hid (NU.parse (L raw) = NU.setFrag u (L f)) := by show _ = _; rw [HF.out]; simp only [h0, if_false]
      clear h0 HF
      cases hd : NU.dec false (L f) with
      | none =>
        have CSP := Lib.hid (fun g => setFrag_no g (urlBA u) f (by omega) hd)
        have HY : Hid (NU.parse (L raw) = none) := by show _ = _; rw [HZ.out, NU.setFrag, hd]; rfl
        clear hd HZ
        go_enter Tryz.func20, Tryz.ntmps20
        go_wp2_with (first
          | (go_at_call 32; (with_reducible refine (CZ.out _).mono ?_); rintro e w1 ⟨rfl, n1, rfl⟩)
          | (go_at_call 33; (with_reducible refine (CPb.out _ (Lib.hid (ht.out.fr (Fr.of_q ⟨_, rfl⟩)))).mono ?_); rintro e w2 ⟨hf2, g, rfl, hg, hu⟩; replace hu := Lib.hid hu; have hF2 : Fr w w2 := (Fr.of_q ⟨_, rfl⟩).trans hf2)
          | (go_at_call 34; (with_reducible refine (CSP.out _ _ (Lib.hid (ht.out.fr hF2))).mono ?_); rintro e w5 ⟨⟨v, hv, rfl⟩, hf5⟩; obtain ⟨tt, xx, rfl⟩ := hv))
        go_ret2
        exact pa_no HY.out ⟨_, _, rfl⟩ rfl ((hF2.trans hf5).alloc _)
      | some x =>
        have CSP := Lib.hid (fun g W0 hg => setFrag_yes g (urlBA u) f x (by omega) hd W0 hg)
        have HY : Hid (NU.parse (L raw) = some { u with frag := x, rawfrag := if L f = NU.esc 64 x then [] else L f }) := by show _ = _; rw [HZ.out, NU.setFrag, hd]; rfl
        have HUz : Hid (setFragR (urlBA u) x (L f) = urlBA { u with frag := x, rawfrag := if L f = NU.esc 64 x then [] else L f }) := by
          show _ = _; unfold setFragR urlBA
          by_cases hq : L f = NU.esc 64 x
          · simp [hq]; rfl
          · simp [hq]
        clear hd HZ
        go_enter Tryz.func20, Tryz.ntmps20
        go_wp2_with (first
          | (go_at_call 32; (with_reducible refine (CZ.out _).mono ?_); rintro e w1 ⟨rfl, n1, rfl⟩)
          | (go_at_call 33; (with_reducible refine (CPb.out _ (Lib.hid (ht.out.fr (Fr.of_q ⟨_, rfl⟩)))).mono ?_); rintro e w2 ⟨hf2, g, rfl, hg, hu⟩; replace hu := Lib.hid hu; have hF2 : Fr w w2 := (Fr.of_q ⟨_, rfl⟩).trans hf2)
          | (go_at_call 34; (with_reducible refine (CSP.out _ w hg _ hu hF2 ht).mono ?_); rintro e w5 ⟨rfl, hf5, hu5⟩; replace hu5 := Lib.hid hu5))
        go_ret2
        exact pa_yes HY.out rfl hg hu5.out HUz.out hf5
end Go.Proofs.YtibcegbacnjmfaaGreatDoor
