import Derived.Test.YtibcegbacnjmfaaDoorW32
import Derived.Test.YtibcegbacnjmfaaDoorW8
import Derived.Test.YtibcegbacnjmfaaDoorW37
namespace Go.Proofs.YtibcegbacnjmfaaDoor
set_option linter.unusedVariables false
set_option linter.unusedSimpArgs false
open Go.RowKit

/-- Some error. -/
def ErrV (v : Value) : Prop := ∃ (t : TypeId) (x : Value), v = .iface t x
theorem IsErr.v {v : Value} (h : IsErr v) : ErrV v := by obtain ⟨t, a, rfl⟩ := h; exact ⟨t, _, rfl⟩

set_option maxHeartbeats 400000 in
theorem errNew_any (s : ByteArray) (w : World) :
    Calls Tryd.prog 50 #[.string s] w fun e w' => (∃ v, IsErr v ∧ e = .returned v) ∧ Fr w w' := by
  go_enter Tryd.func50, Tryd.ntmps50
  go_wp2
  go_ret
  exact ⟨⟨_, ⟨_, _, rfl⟩, rfl⟩, (Fr.refl _).alloc _⟩

theorem UrlIs.ne {w : World} {g : Nat} {v : Value} {U : UrlR} (hu : UserIs w v U.user) (hb : Blk w g 65 (urlA U v)) : ∀ a, v = .pointer (some a) → g ≠ a.block := by
  intro a ha e
  match hU : U.user, hu with
  | none, hu => rw [show v = .pointer none from hu] at ha; cases ha
  | some (n, p, b), hu =>
    obtain ⟨k, hk, hbk⟩ := hu
    rw [ha] at hk
    cases hk
    subst e
    unfold Blk at hb hbk
    rw [hb] at hbk
    exact absurd (congrArg (fun o => match o with | some (Obj.cells _ t _) => t | _ => 0) hbk) (by show ¬ ((65 : Nat) = 87); decide)
theorem UserIs.far {w : World} {v : Value} {u : Option (ByteArray × ByteArray × Bool)} (h : UserIs w v u) {p : Addr} (hp : ∀ a, v = .pointer (some a) → p.block ≠ a.block) (x : Value) : UserIs (w.setCell p x) v u := by
  match u, h with
  | none, h => exact h
  | some (n, q, b), ⟨g, hg, hb⟩ => exact ⟨g, hg, hb.far (fun e => hp _ hg e.symm) x⟩
/-- A store into one of the URL's own fields, but the user. -/
theorem UrlIs.set_ {w : World} {g : Nat} {U U' : UrlR} (h : UrlIs w g U) (i : Nat) (u : Value) (hs : ∀ v, (urlA U v).setIfInBounds i u = urlA U' v) (hu : U'.user = U.user) : UrlIs (w.setCell ⟨g, i, none⟩ u) g U' := by
  obtain ⟨v, h1, h2⟩ := h
  refine ⟨v, ?_, ?_⟩
  · rw [hu]; exact h1.far (fun a ha => UrlIs.ne h1 h2 a ha) u
  · have := h2.set_ i u
    rw [hs] at this; exact this
theorem UrlIs.frozen {w : World} {g : Nat} {U : UrlR} (h : UrlIs w g U) (i : Nat) : w.frozen? ⟨g, i, none⟩ = false := by
  obtain ⟨v, _, hb⟩ := h; exact hb.frozen i
theorem UrlIs.drew {w : World} {g : Nat} {U : UrlR} (h : UrlIs w g U) : UrlIs w.drew g U := h.fr ((Fr.refl w).drew)
theorem UrlIs.drewN {w : World} {g : Nat} {U : UrlR} (h : UrlIs w g U) (n : Nat) : UrlIs (w.drewN n) g U := h.fr ((Fr.refl w).drewN n)

/-- What setPath does to a URL. -/
def setPathR (U : UrlR) (x p : List UInt8) : UrlR := { U with path := mk x, rawPath := if p = NU.esc 1 x then ⟨#[]⟩ else mk p }
def setFragR (U : UrlR) (x p : List UInt8) : UrlR := { U with fragment := mk x, rawFragment := if p = NU.esc 64 x then ⟨#[]⟩ else mk p }

set_option maxRecDepth 100000 in
set_option maxHeartbeats 2000000 in
theorem setPath_no (g : Nat) (U : UrlR) (p : ByteArray) (hp : p.size ≤ 274877906944) (hd : NU.dec false (L p) = none) (w : World) (ht : Hid (Tab w)) :
    Calls Tryd.prog 56 #[.pointer (some ⟨g, 0, none⟩), .string p] w fun e w' => (∃ v, ErrV v ∧ e = .returned v) ∧ Fr w w' := by
  have C := Lib.hid (fun W (hW : Hid (Tab W)) => unescape_any p 1 false W hW.out (by omega) rfl rfl rfl)
  rw [hd] at C
  clear hd
  go_enter Tryd.func56, Tryd.ntmps56
  go_wp2_with (go_at_call 57; (with_reducible refine (C.out _ ht).mono ?_); rintro e w1 ⟨⟨ev, rfl, x, rfl⟩, hf1⟩)
  go_ret
  exact ⟨⟨_, ⟨_, _, rfl⟩, rfl⟩, hf1⟩
set_option maxRecDepth 100000 in
set_option maxHeartbeats 2000000 in
theorem setPath_yes (g : Nat) (U : UrlR) (p : ByteArray) (x : List UInt8) (hp : p.size ≤ 274877906944) (hd : NU.dec false (L p) = some x) (w0 : World) (hg : w0.heap.size ≤ g) (w : World) (h : Hid (UrlIs w g U)) (hfr : Fr w0 w) (ht : Hid (Tab w0)) :
    Calls Tryd.prog 56 #[.pointer (some ⟨g, 0, none⟩), .string p] w fun e w' => e = .returned .nilIface ∧ Fr w0 w' ∧ UrlIs w' g (setPathR U x (L p)) := by
  have C := Lib.hid (fun W (hW : Hid (Tab W)) => unescape_any p 1 false W hW.out (by omega) rfl rfl rfl)
  rw [hd] at C
  have hxl : x.length ≤ p.size := by rw [← L_length]; exact NU.dec_len false _ _ _ (Nat.le_refl _) hd
  obtain ⟨xb, hxb⟩ : ∃ xb, xb = mk x := ⟨_, rfl⟩
  have hx : x = L xb := by rw [hxb, L_mk]
  have hxz : xb.size ≤ p.size := by rw [hxb, mk_size]; exact hxl
  have CE := Lib.hid (escape_m xb 1 1 rfl (by omega))
  have HU : Hid (∀ W r, UrlIs W g U → UrlIs ((W.setCell ⟨g, 4, none⟩ (.string xb)).setCell ⟨g, 7, none⟩ (.string r)) g { U with path := xb, rawPath := r }) := by
    show ∀ W r, _ → _
    intro W r hW
    have h1 : UrlIs (W.setCell ⟨g, 4, none⟩ (.string xb)) g { U with path := xb } := hW.set_ 4 _ (fun v => rfl) rfl
    exact h1.set_ 7 _ (fun v => rfl) rfl
  have hE : Hid (setPathR U x (L p) = { U with path := xb, rawPath := if L p = NU.esc 1 (L xb) then ⟨#[]⟩ else p }) := by
    show _ = _; rw [setPathR, ← hxb, hx, mk_L]
  have C' : Hid (∀ W, Hid (Tab W) → Calls Tryd.prog 57 #[.string p, .int .u8 1] W fun e w' => e = .returned (.tuple #[.string xb, .nilIface]) ∧ Fr W w') := by
    show ∀ W, _ → _
    intro W hW
    refine (C.out W hW).mono ?_
    rintro e w' ⟨⟨ev, rfl, he⟩, hf⟩
    have he : ev = .nilIface := he
    subst he
    exact ⟨by rw [hxb]; rfl, hf⟩
  clear hd hxl C hxb hx
  by_cases hq : L p = NU.esc 1 (L xb)
  · have q : (p.toList == (mk (NU.esc 1 (L xb))).toList) = true := by rw [beq_L, L_mk, hq]; simp
    have hE2 : Hid (setPathR U x (L p) = { U with path := xb, rawPath := ⟨#[]⟩ }) := by show _ = _; rw [hE.out, if_pos hq]
    clear hq hE
    go_enter Tryd.func56, Tryd.ntmps56
    go_wp2_with (first
      | (go_at_call 57; (with_reducible refine (C'.out _ (Lib.hid (ht.out.fr hfr))).mono ?_); rintro e w1 ⟨rfl, hf1⟩; have hu1 := Lib.hid (h.out.fr hf1); have hF1 := hfr.trans hf1; have c4 := (hu1.out.cells).2.2.2.1; have f4 := hu1.out.frozen 4)
      | (go_at_call 43; (with_reducible refine (CE.out _ (Lib.hid (ht.out.fr (hF1.setCell hg _)))).mono ?_); rintro e w2 ⟨rfl, hf2⟩; have hu2 := Lib.hid ((UrlIs.set_ (U' := { U with path := xb }) hu1.out 4 (.string xb) (fun v => rfl) rfl).fr hf2); have hF2 := (hF1.setCell (p := ⟨g, 4, none⟩) hg (.string xb)).trans hf2; have c7 := (hu2.out.cells).2.2.2.2.2.2.1; have f7 := hu2.out.frozen 7))
    go_ret
    refine ⟨rfl, hF2.setCell hg _, ?_⟩
    rw [hE2.out]
    exact UrlIs.set_ hu2.out 7 _ (fun v => rfl) rfl
  · have q : (p.toList == (mk (NU.esc 1 (L xb))).toList) = false := by rw [beq_L, L_mk]; simpa using hq
    have hE2 : Hid (setPathR U x (L p) = { U with path := xb, rawPath := p }) := by show _ = _; rw [hE.out, if_neg hq]
    clear hq hE
    go_enter Tryd.func56, Tryd.ntmps56
    go_wp2_with (first
      | (go_at_call 57; (with_reducible refine (C'.out _ (Lib.hid (ht.out.fr hfr))).mono ?_); rintro e w1 ⟨rfl, hf1⟩; have hu1 := Lib.hid (h.out.fr hf1); have hF1 := hfr.trans hf1; have c4 := (hu1.out.cells).2.2.2.1; have f4 := hu1.out.frozen 4)
      | (go_at_call 43; (with_reducible refine (CE.out _ (Lib.hid (ht.out.fr (hF1.setCell hg _)))).mono ?_); rintro e w2 ⟨rfl, hf2⟩; have hu2 := Lib.hid ((UrlIs.set_ (U' := { U with path := xb }) hu1.out 4 (.string xb) (fun v => rfl) rfl).fr hf2); have hF2 := (hF1.setCell (p := ⟨g, 4, none⟩) hg (.string xb)).trans hf2; have c7 := (hu2.out.cells).2.2.2.2.2.2.1; have f7 := hu2.out.frozen 7))
    go_ret
    refine ⟨rfl, hF2.setCell hg _, ?_⟩
    rw [hE2.out]
    exact UrlIs.set_ hu2.out 7 _ (fun v => rfl) rfl
end Go.Proofs.YtibcegbacnjmfaaDoor
