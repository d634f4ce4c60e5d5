import Derived.Test.YtlholchmgheemaaDoorW55
import Derived.Test.YtlholchmgheemaaDoorW56
import Derived.Test.YtlholchmgheemaaDoorW17
namespace Go.Proofs.YtlholchmgheemaaDoor
set_option linter.unusedVariables false
set_option linter.unusedSimpArgs false
open Go.RowKit Go.Maps

theorem lit_at (w : World) : PAt ((w.alloc (.cells #[.string ⟨#[49]⟩] 9)).alloc (.cells #[.string ⟨#[97]⟩, .slice (some ⟨w.heap.size, 0, none⟩) 1 1] 40)) (.slice (some ⟨w.heap.size + 1, 0, none⟩) 1 1) [([97], [[49]])] := by
  have b1 := (Blk.new w 9 #[.string ⟨#[49]⟩]).alloc (.cells #[.string ⟨#[97]⟩, .slice (some ⟨w.heap.size, 0, none⟩) 1 1] 40)
  have b2 : Blk ((w.alloc (.cells #[.string ⟨#[49]⟩] 9)).alloc (.cells #[.string ⟨#[97]⟩, .slice (some ⟨w.heap.size, 0, none⟩) 1 1] 40)) (w.heap.size + 1) 40 #[.string ⟨#[97]⟩, .slice (some ⟨w.heap.size, 0, none⟩) 1 1] := Blk.new_at (by simp)
  refine ⟨_, _, rfl, .inr ⟨w.heap.size + 1, rfl, fun i hi => ?_⟩⟩
  have : i = 0 := by simpa using hi
  subst this
  refine ⟨b2.cell 0, .slice (some ⟨w.heap.size, 0, none⟩) 1 1, b2.cell 1, ⟨_, _, rfl, .inr ⟨w.heap.size, rfl, fun j hj => ?_⟩⟩⟩
  have : j = 0 := by simpa using hj
  subst this
  exact b1.cell 0
theorem few_lit : Few [([97], [[49]])] := by
  refine ⟨by decide, fun i hi => ?_⟩
  have : i = 0 := by simpa using hi
  subst this
  show (1 : Nat) ≤ _; omega
set_option maxRecDepth 100000 in
set_option maxHeartbeats 4000000 in
theorem queries_any (w : World) (ht : Hid (Tab w)) :
    Calls Tryd.prog 9 #[] w fun e w' => e = .returned (.bool true) ∧ Fr w w' := by
  have hq : NU.qparse (L ⟨#[97, 61, 49]⟩) = ([([97], [[49]])], false) := by kernel_rfl
  have C : Hid (∀ W, Hid (Tab W) → Calls Tryd.prog 11 #[.string ⟨#[97, 61, 49]⟩] W fun e w' => (∃ v, e = .returned (.tuple #[v, .bool true]) ∧ PAt w' v [([97], [[49]])]) ∧ Fr W w') := by
    show ∀ W, _ → _
    intro W hW
    refine (implParseQuery_any ⟨#[97, 61, 49]⟩ (by decide) W hW).mono ?_
    rintro e w' ⟨v, S, rfl, hf, hp, _⟩
    rw [hq] at hp ⊢
    exact ⟨⟨v, rfl, hp.at⟩, hf⟩
  have CS := Lib.hid (fun v1 v2 W h1 h2 => SamePairs_any v1 v2 [([97], [[49]])] [([97], [[49]])] W few_lit.1 few_lit.1 (Lib.hid few_lit.2) (Lib.hid few_lit.2) h1 h2)
  rw [decide_eq_true rfl] at CS
  clear hq
  go_enter Tryd.func9, Tryd.ntmps9
  go_wp2_with (first
    | (go_at_call 11; (with_reducible refine (C.out _ ht).mono ?_); rintro e w1 ⟨⟨v, rfl, hv⟩, hf1⟩; replace hv := Lib.hid hv)
    | (go_at_call 12; (with_reducible refine (CS.out _ _ _ (hv.out.fr (((Fr.refl _).alloc _).alloc _)) (lit_at _)).mono ?_); rintro e w2 ⟨rfl, hf2⟩))
  go_ret
  exact ⟨rfl, ((hf1.alloc _).alloc _).trans hf2⟩
theorem urlQuery_any (g : Nat) (U : UrlR) (hs : U.rawQuery.size ≤ 35184372088832) (w : World) (h : Hid (UrlIs w g U)) (ht : Hid (Tab w)) :
    Calls Tryd.prog 25 #[.pointer (some ⟨g, 0, none⟩)] w fun e w' => ∃ b n S, e = .returned (.map (some b)) ∧ n ≤ 10001 ∧ Gmap w.heap.size w' b n S (NU.qparse (L U.rawQuery)).1 ∧ QLen (NU.qparse (L U.rawQuery)).1 n ∧ Fr w w' := by
  have C := Lib.hid (urlParseQuery_any U.rawQuery hs)
  have c6 : w.cell? ⟨g, 6, none⟩ = some (.string U.rawQuery) := by obtain ⟨v, hu, hb⟩ := h.out; exact hb.cell 6
  go_enter Tryd.func25, Tryd.ntmps25
  go_wp2_with (go_at_call 22; (with_reducible refine (C.out _ ht).mono ?_); rintro e w1 ⟨b, ev, n, S, rfl, hev, hn, hG, hQ, hB⟩; replace hev := Lib.hid hev; replace hG := Lib.hid hG; replace hQ := Lib.hid hQ; replace hB := Lib.hid hB)
  go_ret
  exact ⟨b, n, S, rfl, hn, hG.out, hQ.out, hB.out⟩
set_option maxRecDepth 100000 in
set_option maxHeartbeats 4000000 in
theorem implQueryOf_any (s : ByteArray) (hs : s.size ≤ 35184372088832) (w : World) (ht : Hid (Tab w)) :
    Calls Tryd.prog 13 #[.agg #[.string ⟨#[]⟩, .string ⟨#[]⟩, .bool false, .string ⟨#[]⟩, .bool false, .string ⟨#[]⟩, .string ⟨#[]⟩, .string ⟨#[]⟩, .string ⟨#[]⟩, .bool false, .string s, .string ⟨#[]⟩, .string ⟨#[]⟩, .bool false, .string ⟨#[]⟩, .string ⟨#[]⟩]] w fun e w' => ∃ v S, e = .returned v ∧ Fr w w' ∧ Pairs w.heap.size w' v S (NU.qparse (L s)).1 := by
  have C := Lib.hid (made_call ⟨#[]⟩ ⟨#[]⟩ ⟨#[]⟩ ⟨#[]⟩ ⟨#[]⟩ ⟨#[]⟩ ⟨#[]⟩ s ⟨#[]⟩ ⟨#[]⟩ ⟨#[]⟩ ⟨#[]⟩ false false false false)
  have D := Lib.hid (fun (g : Nat) => urlQuery_any g (madeOf ⟨⟨#[]⟩, ⟨#[]⟩, false, ⟨#[]⟩, false, ⟨#[]⟩, ⟨#[]⟩, ⟨#[]⟩, ⟨#[]⟩, false, s, ⟨#[]⟩, ⟨#[]⟩, false, ⟨#[]⟩, ⟨#[]⟩⟩) hs)
  have CP := Lib.hid (fun B b n S => pairs_any B b n S (NU.qparse (L s)).1)
  replace hs := Lib.hid hs
  go_enter Tryd.func13, Tryd.ntmps13
  go_wp2_with fail
  refine C.out _ _ ?_
  intro g w1 hf1 hu1
  have hF : Fr w w1 := by first | exact hf1 | exact ((Fr.refl _).alloc _).trans hf1
  have ht1 := Lib.hid (ht.out.fr hF)
  replace hF := Lib.hid hF
  clear hf1
  go_wp2_with (first
    | (go_at_call 25; refine (D.out g _ hu1 ht1).mono ?_; rintro e w2 ⟨b, n, S, rfl, hn, hG, hQ, hf2⟩; replace hG : Hid (Gmap _ _ b n S (NU.qparse (L s)).1) := Lib.hid hG; replace hQ : Hid (QLen (NU.qparse (L s)).1 n) := Lib.hid hQ; replace hf2 := Lib.hid hf2)
    | (go_at_call 23; (with_reducible refine (CP.out _ _ _ _ _ hG hn hQ).mono ?_); rintro e w3 ⟨v, S', rfl, hf3, hp3⟩; replace hf3 := Lib.hid hf3; replace hp3 := Lib.hid hp3))
  go_ret
  exact ⟨_, S', rfl, (hF.out.trans hf2.out).trans hf3.out, hp3.out.mono (Nat.le_trans hF.out.size hf2.out.size)⟩
set_option maxRecDepth 100000 in
set_option maxHeartbeats 4000000 in
theorem FnQueryOf_any (s : ByteArray) (w : World) (ht : Tab w) :
    Calls Tryd.prog 4 #[.string s] w fun e w' => e = .returned (.bool true) ∧ Fr w w' := by
  by_cases hb : s.size ≤ 2147483647
  · have C1 := Lib.hid (implParseQuery_any s (by omega))
    have C2 := Lib.hid queries_any
    have C3 := Lib.hid (implQueryOf_any s (by omega))
    have CS := Lib.hid (fun v1 v2 W (hF : Hid (Few (NU.qparse (L s)).1)) h1 h2 => SamePairs_any v1 v2 (NU.qparse (L s)).1 (NU.qparse (L s)).1 W hF.out.1 hF.out.1 (Lib.hid hF.out.2) (Lib.hid hF.out.2) h1 h2)
    rw [decide_eq_true rfl] at CS
    replace ht := Lib.hid ht
    go_enter Tryd.func4, Tryd.ntmps4
    go_wp2_with (first
      | (go_at_call 11; (with_reducible refine (C1.out _ ht).mono ?_); rintro e w1 ⟨v1, S1, rfl, hf1, hp1, hfew⟩; replace hfew := Lib.hid hfew; replace hp1 := Lib.hid hp1.at)
      | (go_at_call 9; (with_reducible refine (C2.out _ (Lib.hid (ht.out.fr hf1))).mono ?_); rintro e w2 ⟨rfl, hf2⟩; have hF2 := hf1.trans hf2)
      | (go_at_call 13; (with_reducible refine (C3.out _ (Lib.hid (ht.out.fr hF2))).mono ?_); rintro e w3 ⟨v3, S3, rfl, hf3, hp3⟩; replace hp3 := Lib.hid hp3.at; have hf23 := Lib.hid (hf2.trans hf3))
      | (go_at_call 12; (with_reducible refine (CS.out _ _ _ hfew hp3.out (hp1.out.fr hf23.out)).mono ?_); rintro e w4 ⟨rfl, hf4⟩))
    go_ret
    exact ⟨rfl, (hF2.trans hf3).trans hf4⟩
  · have hb : 2147483647 < (s.size : Int) := by omega
    go_enter Tryd.func4, Tryd.ntmps4
    go_wp2
    go_ret
    exact ⟨rfl, Fr.refl _⟩
end Go.Proofs.YtlholchmgheemaaDoor
