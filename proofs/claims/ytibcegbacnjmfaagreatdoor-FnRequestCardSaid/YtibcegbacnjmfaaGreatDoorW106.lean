import Derived.Test.YtibcegbacnjmfaaGreatDoorW95
import Derived.Test.YtibcegbacnjmfaaGreatDoorW46
import Derived.Test.YtibcegbacnjmfaaGreatDoorW89
import Derived.Test.YtibcegbacnjmfaaGreatDoorW98
import Derived.Test.YtibcegbacnjmfaaGreatDoorW9
import Derived.Test.YtibcegbacnjmfaaGreatDoorP
namespace Go.Proofs.YtibcegbacnjmfaaGreatDoor
set_option linter.unusedVariables false
set_option linter.unusedSimpArgs false
open Go.RowKit

/-- A host that parseHost's contract speaks of. -/
def HostG (h : List UInt8) : Prop := NU.HostB h ∨ ((91 : UInt8) ∉ h ∧ (37 : UInt8) ∉ h)
theorem hostC_good (raw : ByteArray) (via : Bool) (hs : raw.size ≤ 137438953472)
    (h : hasAuth (L raw) via = true → HostG (hostPart (NU.authOf (NU.pRest (NU.gsR (L raw)))))) : HostC (L raw) via := by
  intro hA sc ho hsc hho W hW
  rcases h hA with h1 | h1
  · have hz : ho.size ≤ 137438953472 := by
      have h1 := authOf_len (NU.pRest (NU.gsR (L raw)))
      have h2 := pRestR_len raw
      have h3 := hostPart_len (NU.authOf (NU.pRest (NU.gsR (L raw))))
      rw [← hho, L_length] at h3; omega
    exact parseHost_bracket sc ho (by omega) (by rw [hho]; exact h1) W hW
  · exact hostC_plain raw via hs (fun _ => h1) hA sc ho hsc hho W hW
theorem toldC_any (raw : ByteArray) (u : NU.PU) (hs : raw.size ≤ 137438953472) (hn : NU.parse (L raw) = some u) : ToldC (urlBA u) := by
  cases hU : u.user with
  | none => exact toldC_none raw u hs hn hU
  | some x =>
    intro g W hu hW
    have hz := NU.parse_sz hn
    rw [L_length] at hz
    refine told_some g (urlBA u) (mk x.1) (mk x.2.1) x.2.2 (by show userBA u.user = _; rw [hU]; rfl) ?_ ?_ ?_ ?_ W hu hW
    · show (mk u.path).size ≤ _; rw [mk_size]; omega
    · show (mk u.rawpath).size ≤ _; rw [mk_size]; omega
    · show (mk u.frag).size ≤ _; rw [mk_size]; omega
    · show (mk u.rawfrag).size ≤ _; rw [mk_size]; omega
end Go.Proofs.YtibcegbacnjmfaaGreatDoor
namespace Go.Proofs.YtibcegbacnjmfaaGreatDoor
set_option linter.unusedVariables false
set_option linter.unusedSimpArgs false
open Go.RowKit

/-- ParseRequestURI, where parseHost answers. -/
theorem urlParseReq (raw : ByteArray) (hs : raw.size ≤ 137438953472) (CH : HostC (L raw) true) (w : World) (ht : Hid (Tab w)) :
    Calls Tryz.prog 22 #[.string raw] w fun e w' => PaPost (NU.parse0 (L raw) true) w e w' := by
  have CP := Lib.hid (fun W hW => parse_host raw true hs CH W hW)
  clear CH
  cases ho : NU.parse0 (L raw) true with
  | none =>
    have HO := Lib.hid ho
    rw [ho] at CP
    clear ho
    go_enter Tryz.func22, Tryz.ntmps22
    go_wp2_with (go_at_call 33; (with_reducible refine (CP.out _ ht).mono ?_); rintro e w2 ⟨hf2, v, hv, rfl⟩; obtain ⟨tt, xx, rfl⟩ := hv)
    go_ret2
    exact pa_no rfl ⟨_, _, rfl⟩ rfl (hf2.alloc _)
  | some u =>
    have HO := Lib.hid ho
    rw [ho] at CP
    clear ho
    go_enter Tryz.func22, Tryz.ntmps22
    go_wp2_with (go_at_call 33; (with_reducible refine (CP.out _ ht).mono ?_); rintro e w2 ⟨hf2, g, rfl, hg, hu⟩; replace hu := Lib.hid hu)
    go_ret2
    exact pa_yes rfl rfl hg hu.out rfl hf2
set_option maxRecDepth 100000 in
set_option maxHeartbeats 2000000 in
theorem implParseReq_no (raw : ByteArray) (hs : raw.size ≤ 137438953472) (CH : HostC (L raw) true) (hn : NU.parse0 (L raw) true = none) (w : World) (ht : Hid (Tab w)) :
    Calls Tryz.prog 9 #[.string raw] w fun e w' => e = .returned (.tuple #[.agg (iurlA zeroU), .bool false]) ∧ Fr w w' := by
  have CP := Lib.hid (fun W hW => urlParseReq raw hs CH W hW)
  rw [hn] at CP
  clear hn CH
  have B0 : Hid (Blk (w.alloc (.cells (iurlA zeroU) 28)) w.heap.size 28 (iurlA zeroU)) := Lib.hid (Blk.new_at rfl)
  have HW : Fr w (w.alloc (.cells (iurlA zeroU) 28)) := (Fr.refl w).alloc _
  dsimp only [iurlA, zeroU] at B0 HW
  go_enter Tryz.func9, Tryz.ntmps9
  go_wp2_with (first
    | (go_at_call 22; (with_reducible refine (CP.out _ (Lib.hid (ht.out.fr HW))).mono ?_); rintro e w2 ⟨hf2, v, hv, rfl⟩; obtain ⟨tt, xx, rfl⟩ := hv; have hF2 := HW.trans hf2; have hb2 := Lib.hid (B0.out.below hf2 (by simp)))
    | (refine wpList_store_iu rfl _ _ rfl _ _ rfl rfl _ _ hb2 rfl rfl (iurlA_one zeroU) ?_)
    | fail)
  (try simp only [Exit.inBlock, Exit.then])
  refine bodyPost_ret (ret_iu2 rfl _ _ _ rfl _ _ (hb2.out.row _) rfl) rfl ?_
  exact ⟨rfl, hF2.setRow (Nat.le_refl _) _⟩
set_option maxRecDepth 100000 in
set_option maxHeartbeats 2000000 in
theorem implParseReq_yes (raw : ByteArray) (u : NU.PU) (hs : raw.size ≤ 137438953472) (CH : HostC (L raw) true) (hn : NU.parse0 (L raw) true = some u) (CT' : ToldC (urlBA u)) (w : World) (ht : Hid (Tab w)) :
    Calls Tryz.prog 9 #[.string raw] w fun e w' => e = .returned (.tuple #[.agg (iurlA (toldOf (urlBA u))), .bool true]) ∧ Fr w w' := by
  have CP := Lib.hid (fun W hW => urlParseReq raw hs CH W hW)
  have CT := Lib.hid CT'
  unfold ToldC at CT
  rw [hn] at CP
  obtain ⟨T, hT⟩ : ∃ T, T = toldOf (urlBA u) := ⟨_, rfl⟩
  rw [← hT] at CT ⊢
  clear hn CH CT' hT
  have B0 : Hid (Blk (w.alloc (.cells (iurlA zeroU) 28)) w.heap.size 28 (iurlA zeroU)) := Lib.hid (Blk.new_at rfl)
  have HW : Fr w (w.alloc (.cells (iurlA zeroU) 28)) := (Fr.refl w).alloc _
  dsimp only [iurlA, zeroU] at B0 HW
  go_enter Tryz.func9, Tryz.ntmps9
  go_wp2_with (first
    | (go_at_call 22; (with_reducible refine (CP.out _ (Lib.hid (ht.out.fr HW))).mono ?_); rintro e w2 ⟨hf2, g, rfl, hg, hu⟩; replace hu := Lib.hid hu; have hF2 := HW.trans hf2; have hb2 := Lib.hid (B0.out.below hf2 (by simp)))
    | (go_at_call 21; (with_reducible refine (CT.out _ _ hu (Lib.hid (ht.out.fr hF2))).mono ?_); rintro e w3 ⟨rfl, hf3⟩; have hF3 := hF2.trans hf3; have hb3 := Lib.hid (hb2.out.below hf3 hb2.out.lt))
    | (refine wpList_store_iu rfl _ _ rfl _ _ rfl rfl _ _ hb3 rfl rfl (iurlA_one _) ?_)
    | fail)
  (try simp only [Exit.inBlock, Exit.then])
  refine bodyPost_ret (ret_iu2 rfl _ _ _ rfl _ _ (hb3.out.row _) rfl) rfl ?_
  exact ⟨rfl, hF3.setRow (Nat.le_refl _) _⟩
end Go.Proofs.YtibcegbacnjmfaaGreatDoor
namespace Go.Proofs.YtibcegbacnjmfaaGreatDoor
set_option linter.unusedVariables false
set_option linter.unusedSimpArgs false
open Go.RowKit

abbrev refL (l : List UInt8) : Array Value := refA (NU.spS l) (mk (NU.spScheme l)) (NU.spA l) (mk (NU.spAuth l)) (mk (NU.spPath l)) (NU.spQ l) (mk (NU.spQuery l)) (NU.spF l) (mk (NU.spFrag l))
/-- A valid reference's host. -/
theorem hostC_valid (s : ByteArray) (via : Bool) (hs : s.size ≤ 137438953472) (hv : NU.valid (L s) = true) (hf : NU.spF (L s) = false) (hau : NU.spA (L s) = true → NU.spS (L s) = true) (hst : L s ≠ [42]) : HostC (L s) via := by
  obtain ⟨_, _, _, h1, h2⟩ := NU.request_law (L s) hv hf hau hst
  refine hostC_good s via hs fun hA => ?_
  cases hb : NU.spA (L s)
  · exfalso
    unfold hasAuth at hA
    rw [h2 hb, Bool.and_false] at hA
    cases hA
  · obtain ⟨e, hok⟩ := h1 hb
    obtain ⟨_, h3, h4, _⟩ := NU.parseAuth_ok [] _ hok
    rw [e]
    unfold hostPart
    rw [h3]
    rcases h4 with h4 | h4
    · exact .inl h4
    · have hc := NU.hostN_chars h4
      exact .inr ⟨fun hm => (hc _ hm).2.1 rfl, fun hm => (hc _ hm).1 rfl⟩
/-- What both parsings answer. -/
theorem request_calls (s : ByteArray) (hs : s.size ≤ 137438953472) (hv : NU.valid (L s) = true) (hf : NU.spF (L s) = false) (hau : NU.spA (L s) = true → NU.spS (L s) = true) (hst : L s ≠ [42]) :
    ∃ T T2 : IUrl, ∃ b : Bool, (∀ W, Hid (Tab W) → Calls Tryz.prog 8 #[.string s] W fun e w' => e = .returned (.tuple #[.agg (iurlA T), .bool true]) ∧ Fr W w') ∧
      (∀ W, Hid (Tab W) → Calls Tryz.prog 9 #[.string s] W fun e w' => e = .returned (.tuple #[.agg (iurlA T2), .bool b]) ∧ Fr W w') ∧
      (b = false ↔ NU.spS (L s) = false ∧ (NU.spPath (L s)).head? ≠ some 47) ∧ (b = true → T2 = T) := by
  obtain ⟨e1, e2, ⟨u, h1, h2⟩, _⟩ := NU.request_law (L s) hv hf hau hst
  have hC0 := hostC_valid s false hs hv hf hau hst
  have hC1 := hostC_valid s true hs hv hf hau hst
  have hp : NU.parse (L s) = some u := e1.trans h1
  have CP : ParseC s := fun W hW => urlParse_host s hs (by rw [e2]; exact hC0) W hW
  have CT := toldC_any s u hs hp
  by_cases hc : NU.spS (L s) = false ∧ (NU.spPath (L s)).head? ≠ some 47
  · rw [if_pos hc] at h2
    exact ⟨toldOf (urlBA u), zeroU, false, fun W hW => implParse_yes s u hp CP CT W hW, fun W hW => implParseReq_no s hs hC1 h2 W hW, ⟨fun _ => hc, fun _ => rfl⟩, fun h => by cases h⟩
  · rw [if_neg hc] at h2
    exact ⟨toldOf (urlBA u), toldOf (urlBA u), true, fun W hW => implParse_yes s u hp CP CT W hW, fun W hW => implParseReq_yes s u hs hC1 h2 CT W hW, ⟨fun h => (by cases h), fun h => absurd h hc⟩, fun _ => rfl⟩
set_option maxRecDepth 100000 in
set_option maxHeartbeats 4000000 in
/-- Where nothing is asked. -/
theorem FnRequest_out (s : ByteArray) (w : World) (ht : Hid (Tab w)) (hb : s.size ≤ 2147483647) (h : NU.valid (L s) = false ∨ NU.valid (L s) = true ∧ (NU.spF (L s) = true ∨ NU.spF (L s) = false ∧ (NU.spA (L s) = true ∧ NU.spS (L s) = false ∨ NU.spA (L s) = false ∧ L s = [42] ∨ NU.spA (L s) = true ∧ NU.spS (L s) = true ∧ L s = [42]))) :
    Calls Tryz.prog 3 #[.string s] w fun e w' => e = .returned (.bool true) ∧ Fr w w' := by
  have hs : s.size ≤ 35184372088832 := by omega
  have CS := Lib.hid (fun W => Split_any s W hs)
  have CV := Lib.hid (fun W => Valid_split s W hs)
  have CP := Lib.hid parses_any
  rcases h with h | ⟨h, h1 | ⟨h1, ⟨h2, h3⟩ | ⟨h2, h3⟩ | ⟨h2, h4, h3⟩⟩⟩
  all_goals rw [h] at CV
  · clear h
    go_enter Tryz.func3, Tryz.ntmps3
    go_wp2_with (first
      | (go_at_call 5; (with_reducible refine (CS.out _).mono ?_); rintro e w1 ⟨rfl, hf1⟩)
      | (go_at_call 6; (with_reducible refine (CV.out _).mono ?_); rintro e w2 ⟨rfl, hf2⟩; have hF2 := (hf1.alloc _).trans hf2)
      | (go_at_call 7; (with_reducible refine (CP.out _ (Lib.hid (ht.out.fr hF2))).mono ?_); rintro e w3 ⟨rfl, hf3⟩)
      | fail)
    go_ret
    exact ⟨rfl, hF2.trans hf3⟩
  · have H1 := Lib.hid h1
    clear h h1
    go_enter Tryz.func3, Tryz.ntmps3
    go_wp2_with (first
      | (go_at_call 5; (with_reducible refine (CS.out _).mono ?_); rintro e w1 ⟨rfl, hf1⟩)
      | (go_at_call 6; (with_reducible refine (CV.out _).mono ?_); rintro e w2 ⟨rfl, hf2⟩; have hk2 := Blk.below (Blk.new w1 23 _) hf2 (by simp); have hF2 := (hf1.alloc _).trans hf2; clear hf2; obtain ⟨c0, c1, c2, c3, c4, c5, c6, c7, c8⟩ := refCells hk2; rw [H1.out] at c7)
      | (go_at_call 7; (with_reducible refine (CP.out _ (Lib.hid (ht.out.fr hF2))).mono ?_); rintro e w3 ⟨rfl, hf3⟩)
      | fail)
    go_ret
    exact ⟨rfl, hF2.trans hf3⟩
  · have H1 := Lib.hid h1
    have H2 := Lib.hid h2
    have H3 := Lib.hid h3
    clear h h1 h2 h3
    go_enter Tryz.func3, Tryz.ntmps3
    go_wp2_with (first
      | (go_at_call 5; (with_reducible refine (CS.out _).mono ?_); rintro e w1 ⟨rfl, hf1⟩)
      | (go_at_call 6; (with_reducible refine (CV.out _).mono ?_); rintro e w2 ⟨rfl, hf2⟩; have hk2 := Blk.below (Blk.new w1 23 _) hf2 (by simp); have hF2 := (hf1.alloc _).trans hf2; clear hf2; obtain ⟨c0, c1, c2, c3, c4, c5, c6, c7, c8⟩ := refCells hk2; rw [H1.out] at c7; rw [H2.out] at c2; rw [H3.out] at c0)
      | (go_at_call 7; (with_reducible refine (CP.out _ (Lib.hid (ht.out.fr hF2))).mono ?_); rintro e w3 ⟨rfl, hf3⟩)
      | fail)
    go_ret
    exact ⟨rfl, hF2.trans hf3⟩
  · have H1 := Lib.hid h1
    have H2 := Lib.hid h2
    have q1 := eq_lits s _ h3
    clear h h1 h2 h3
    go_enter Tryz.func3, Tryz.ntmps3
    go_wp2_with (first
      | (go_at_call 5; (with_reducible refine (CS.out _).mono ?_); rintro e w1 ⟨rfl, hf1⟩)
      | (go_at_call 6; (with_reducible refine (CV.out _).mono ?_); rintro e w2 ⟨rfl, hf2⟩; have hk2 := Blk.below (Blk.new w1 23 _) hf2 (by simp); have hF2 := (hf1.alloc _).trans hf2; clear hf2; obtain ⟨c0, c1, c2, c3, c4, c5, c6, c7, c8⟩ := refCells hk2; rw [H1.out] at c7; rw [H2.out] at c2)
      | (go_at_call 7; (with_reducible refine (CP.out _ (Lib.hid (ht.out.fr hF2))).mono ?_); rintro e w3 ⟨rfl, hf3⟩)
      | fail)
    go_ret
    exact ⟨rfl, hF2.trans hf3⟩
  · have H1 := Lib.hid h1
    have H2 := Lib.hid h2
    have H4 := Lib.hid h4
    have q1 := eq_lits s _ h3
    clear h h1 h2 h3 h4
    go_enter Tryz.func3, Tryz.ntmps3
    go_wp2_with (first
      | (go_at_call 5; (with_reducible refine (CS.out _).mono ?_); rintro e w1 ⟨rfl, hf1⟩)
      | (go_at_call 6; (with_reducible refine (CV.out _).mono ?_); rintro e w2 ⟨rfl, hf2⟩; have hk2 := Blk.below (Blk.new w1 23 _) hf2 (by simp); have hF2 := (hf1.alloc _).trans hf2; clear hf2; obtain ⟨c0, c1, c2, c3, c4, c5, c6, c7, c8⟩ := refCells hk2; rw [H1.out] at c7; rw [H2.out] at c2; rw [H4.out] at c0)
      | (go_at_call 7; (with_reducible refine (CP.out _ (Lib.hid (ht.out.fr hF2))).mono ?_); rintro e w3 ⟨rfl, hf3⟩)
      | fail)
    go_ret
    exact ⟨rfl, hF2.trans hf3⟩
end Go.Proofs.YtibcegbacnjmfaaGreatDoor
namespace Go.Proofs.YtibcegbacnjmfaaGreatDoor
set_option linter.unusedVariables false
set_option linter.unusedSimpArgs false
open Go.RowKit

set_option maxRecDepth 100000 in
set_option maxHeartbeats 8000000 in
/-- Where both parsings are asked. -/
theorem FnRequest_in (s : ByteArray) (w : World) (ht : Hid (Tab w)) (hb : s.size ≤ 2147483647) (hv : NU.valid (L s) = true) (hf : NU.spF (L s) = false) (hau : NU.spA (L s) = true → NU.spS (L s) = true) (hst : ¬ L s = [42]) :
    Calls Tryz.prog 3 #[.string s] w fun e w' => e = .returned (.bool true) ∧ Fr w w' := by
  have hs : s.size ≤ 35184372088832 := by omega
  have CS := Lib.hid (fun W => Split_any s W hs)
  have CV := Lib.hid (fun W => Valid_split s W hs)
  rw [hv] at CV
  have CP := Lib.hid parses_any
  obtain ⟨T, T2, b, C1, C2, hbb, hTT⟩ := request_calls s (by omega) hv hf hau hst
  replace C1 := Lib.hid C1
  replace C2 := Lib.hid C2
  have q1 := ne_lits s _ hst
  have H1 := Lib.hid hf
  have hcases : (NU.spA (L s) = false ∧ NU.spS (L s) = true) ∨ (NU.spA (L s) = true ∧ NU.spS (L s) = true) ∨ (NU.spA (L s) = false ∧ NU.spS (L s) = false) := by
    cases h2 : NU.spA (L s)
    · cases h3 : NU.spS (L s)
      · exact .inr (.inr ⟨rfl, rfl⟩)
      · exact .inl ⟨rfl, rfl⟩
    · exact .inr (.inl ⟨rfl, hau h2⟩)
  clear hv hf hau hst
  rcases hcases with ⟨h2, h3⟩ | ⟨h2, h3⟩ | ⟨h2, h3⟩
  all_goals
    have H2 := Lib.hid h2
    have H3 := Lib.hid h3
    clear h2 h3
    go_enter Tryz.func3, Tryz.ntmps3
    go_upto_region 7 with (first
      | (go_at_call 5; (with_reducible refine (CS.out _).mono ?_); rintro e w1 ⟨rfl, hf1⟩)
      | (go_at_call 6; (with_reducible refine (CV.out _).mono ?_); rintro e w2 ⟨rfl, hf2⟩; have hk2 := Blk.below (Blk.new w1 23 _) hf2 (by simp); have hF2 := (hf1.alloc _).trans hf2; have HK2 := Lib.hid hk2; have HF2 := Lib.hid hF2; clear hf2; obtain ⟨c0, c1, c2, c3, c4, c5, c6, c7, c8⟩ := refCells hk2; rw [H1.out] at c7; rw [H2.out] at c2; rw [H3.out] at c0; clear hk2 hF2 c1 c3 c4 c5 c6 c8)
      | (go_at_call 8; (with_reducible refine (C1.out _ (Lib.hid (ht.out.fr HF2.out))).mono ?_); rintro e w3 ⟨rfl, hf3⟩; have HK3 := Lib.hid (HK2.out.below hf3 HK2.out.lt); have HF3 : Hid (Fr w _) := Lib.hid (Fr.trans HF2.out hf3); clear hf3 c0 c2 c7; have B3 : Hid (Blk (w3.alloc (.cells (iurlA zeroU) 28)) w3.heap.size 28 (iurlA zeroU)) := Lib.hid (Blk.new _ _ _))
      | (refine wpList_store_iu rfl _ _ rfl _ _ rfl rfl _ _ B3 rfl rfl (iurlA_one _) ?_)
      | fail)
    obtain ⟨r, hr⟩ : ∃ r, r = w1.heap.size := ⟨_, rfl⟩
    rw [← hr] at HK3
    obtain ⟨k, hk⟩ : ∃ k, k = w3.heap.size := ⟨_, rfl⟩
    have hkr : Hid (r < k) := by rw [hk]; exact Lib.hid HK3.out.lt
    have hkw : Hid (w.heap.size ≤ k) := by rw [hk]; exact Lib.hid HF3.out.size
    obtain ⟨W4, hW4⟩ : ∃ W4, W4 = (w3.alloc (.cells (iurlA zeroU) 28)).setRow k (iurlA T) := ⟨_, rfl⟩
    have F4 : Hid (Fr w W4) := by rw [hW4]; exact Lib.hid ((HF3.out.alloc _).setRow hkw.out _)
    have K4 : Hid (Blk W4 r 23 (refL (L s))) := by rw [hW4]; exact Lib.hid ((HK3.out.alloc _).farRow (by have := hkr.out; omega) _)
    have T4 : Hid (Blk W4 k 28 (iurlA T)) := by rw [hW4, hk]; exact Lib.hid (B3.out.row _)
    rw [← hk, ← hr]
    dsimp only [iurlA, zeroU] at hW4
    rw [← hW4]
    clear hW4 B3 HK3 HF3 hk hr HK2 HF2
    go_upto_region 8 with (first
      | (go_at_call 9; (with_reducible refine (C2.out _ (Lib.hid (ht.out.fr F4.out))).mono ?_); rintro e w5 ⟨rfl, hf5⟩; have K5 := Lib.hid (K4.out.below hf5 K4.out.lt); have T5 := Lib.hid (T4.out.below hf5 T4.out.lt); have F5 : Hid (Fr w _) := Lib.hid (Fr.trans F4.out hf5); clear hf5; have B5 : Hid (Blk (w5.alloc (.cells (iurlA zeroU) 28)) w5.heap.size 28 (iurlA zeroU)) := Lib.hid (Blk.new _ _ _))
      | (refine wpList_store_iu rfl _ _ rfl _ _ rfl rfl _ _ B5 rfl rfl (iurlA_one _) ?_)
      | fail)
    obtain ⟨k2, hk2⟩ : ∃ k2, k2 = w5.heap.size := ⟨_, rfl⟩
    have hkk : Hid (k < k2) := by rw [hk2]; exact Lib.hid T5.out.lt
    obtain ⟨W6, hW6⟩ : ∃ W6, W6 = (w5.alloc (.cells (iurlA zeroU) 28)).setRow k2 (iurlA T2) := ⟨_, rfl⟩
    have F6 : Hid (Fr w W6) := by rw [hW6]; exact Lib.hid ((F5.out.alloc _).setRow (by have := hkk.out; have := hkw.out; omega) _)
    have K6 : Hid (Blk W6 r 23 (refL (L s))) := by rw [hW6]; exact Lib.hid ((K5.out.alloc _).farRow (by have := hkk.out; have := hkr.out; omega) _)
    have T6 : Hid (Blk W6 k 28 (iurlA T)) := by rw [hW6]; exact Lib.hid ((T5.out.alloc _).farRow (by have := hkk.out; omega) _)
    have V6 : Hid (Blk W6 k2 28 (iurlA T2)) := by rw [hW6, hk2]; exact Lib.hid (B5.out.row _)
    rw [← hk2]
    dsimp only [iurlA, zeroU] at hW6
    rw [← hW6]
    clear hW6 B5 K5 T5 F5 hk2 K4 T4 F4 C1 C2 CS CV
    obtain ⟨c0, c1, c2, c3, c4, c5, c6, c7, c8⟩ := refCells K6.out
    rw [H3.out] at c0
    clear c1 c2 c3 c5 c6 c7 c8
  · have hbt : b = true := by
      cases b with
      | true => rfl
      | false => have := (hbb.1 rfl).1; rw [H3.out] at this; cases this
    obtain ⟨p, hp⟩ : ∃ p, p = mk (NU.spPath (L s)) := ⟨_, rfl⟩
    rw [← hp] at c4
    clear hp
    have hT := hTT hbt
    subst hbt
    subst hT
    have EQ := eql_iu T2
    clear hbb hTT
    go_upto_region 10 with fail
    clear c0 c4 K6 hkr hkw hkk H1 H2 H3 q1
    go_wp2_with (first
      | (go_at_call 7; (with_reducible refine (CP.out _ (Lib.hid (ht.out.fr F6.out))).mono ?_); rintro e w7 ⟨rfl, hf7⟩; have T7 := Lib.hid (T6.out.below hf7 T6.out.lt); have V7 := Lib.hid (V6.out.below hf7 V6.out.lt))
      | (refine wpList_load_iu_g (by rfl) _ rfl _ rfl _ _ T7 rfl ?_)
      | (refine wpList_load_iu_g (by rfl) _ rfl _ rfl _ _ V7 rfl ?_)
      | fail)
    go_ret
    exact ⟨rfl, F6.out.trans hf7⟩
  · have hbt : b = true := by
      cases b with
      | true => rfl
      | false => have := (hbb.1 rfl).1; rw [H3.out] at this; cases this
    obtain ⟨p, hp⟩ : ∃ p, p = mk (NU.spPath (L s)) := ⟨_, rfl⟩
    rw [← hp] at c4
    clear hp
    have hT := hTT hbt
    subst hbt
    subst hT
    have EQ := eql_iu T2
    clear hbb hTT
    go_upto_region 10 with fail
    clear c0 c4 K6 hkr hkw hkk H1 H2 H3 q1
    go_wp2_with (first
      | (go_at_call 7; (with_reducible refine (CP.out _ (Lib.hid (ht.out.fr F6.out))).mono ?_); rintro e w7 ⟨rfl, hf7⟩; have T7 := Lib.hid (T6.out.below hf7 T6.out.lt); have V7 := Lib.hid (V6.out.below hf7 V6.out.lt))
      | (refine wpList_load_iu_g (by rfl) _ rfl _ rfl _ _ T7 rfl ?_)
      | (refine wpList_load_iu_g (by rfl) _ rfl _ rfl _ _ V7 rfl ?_)
      | fail)
    go_ret
    exact ⟨rfl, F6.out.trans hf7⟩
  · cases hp : NU.spPath (L s) with
    | nil =>
      have hbf : b = false := hbb.2 ⟨H3.out, by rw [hp]; simp⟩
      rw [hp, show mk ([] : List UInt8) = ⟨#[]⟩ from rfl] at c4
      clear hp
      subst hbf
      clear hbb hTT
      go_wp2_with (first
        | (go_at_call 7; (with_reducible refine (CP.out _ (Lib.hid (ht.out.fr F6.out))).mono ?_); rintro e w7 ⟨rfl, hf7⟩)
        | fail)
      go_ret
      exact ⟨rfl, F6.out.trans hf7⟩
    | cons c t =>
      obtain ⟨p, hpp⟩ : ∃ p, p = mk (c :: t) := ⟨_, rfl⟩
      rw [hp, ← hpp] at c4
      have hL : L p = c :: t := by rw [hpp, L_mk]
      have qp := L_nempty (s := p) (by rw [hL]; simp)
      have ip : 0 < p.size := by rw [← L_length, hL]; simp
      obtain ⟨_, hpc, _⟩ := get_of (t := p) (k := 0) (by rw [List.drop_zero]; exact hL)
      by_cases hc : c = 47
      · have hbt : b = true := by
          cases b with
          | true => rfl
          | false => exact absurd (by rw [hp, hc]; rfl) (hbb.1 rfl).2
        have m1 : ((p[0].toNat : Int) != 47) = false := by rw [hpc, hc]; rfl
        clear hp hL hpc hc hpp
        have hT := hTT hbt
        subst hbt
        subst hT
        have EQ := eql_iu T2
        clear hbb hTT
        go_wp2_with (first
          | (go_at_call 7; (with_reducible refine (CP.out _ (Lib.hid (ht.out.fr F6.out))).mono ?_); rintro e w7 ⟨rfl, hf7⟩; have T7 := Lib.hid (T6.out.below hf7 T6.out.lt); have V7 := Lib.hid (V6.out.below hf7 V6.out.lt))
          | (refine wpList_load_iu_g (by rfl) _ rfl _ rfl _ _ T7 rfl ?_)
          | (refine wpList_load_iu_g (by rfl) _ rfl _ rfl _ _ V7 rfl ?_)
          | fail)
        go_ret
        exact ⟨rfl, F6.out.trans hf7⟩
      · have hbf : b = false := hbb.2 ⟨H3.out, by rw [hp]; simpa using hc⟩
        have m1 : ((p[0].toNat : Int) != 47) = true := by
          rw [hpc, bne_iff_ne]
          intro e
          exact hc (UInt8.toNat_inj.1 (by have : (47 : UInt8).toNat = 47 := rfl; omega))
        clear hp hL hpc hc hpp
        subst hbf
        clear hbb hTT
        go_wp2_with (first
          | (go_at_call 7; (with_reducible refine (CP.out _ (Lib.hid (ht.out.fr F6.out))).mono ?_); rintro e w7 ⟨rfl, hf7⟩)
          | fail)
        go_ret
        exact ⟨rfl, F6.out.trans hf7⟩
set_option maxRecDepth 100000 in
theorem FnRequest_any (s : ByteArray) (w : World) (ht : Tab w) :
    Calls Tryz.prog 3 #[.string s] w fun e w' => e = .returned (.bool true) ∧ Fr w w' := by
  replace ht := Lib.hid ht
  by_cases hb : s.size ≤ 2147483647
  · cases hv : NU.valid (L s)
    · exact FnRequest_out s w ht hb (.inl hv)
    · cases hf : NU.spF (L s)
      · by_cases hst : L s = [42]
        · cases hA : NU.spA (L s)
          · exact FnRequest_out s w ht hb (.inr ⟨hv, .inr ⟨hf, .inr (.inl ⟨hA, hst⟩)⟩⟩)
          · cases hS : NU.spS (L s)
            · exact FnRequest_out s w ht hb (.inr ⟨hv, .inr ⟨hf, .inl ⟨hA, hS⟩⟩⟩)
            · exact FnRequest_out s w ht hb (.inr ⟨hv, .inr ⟨hf, .inr (.inr ⟨hA, hS, hst⟩)⟩⟩)
        · by_cases hau : NU.spA (L s) = true → NU.spS (L s) = true
          · exact FnRequest_in s w ht hb hv hf hau hst
          · cases hA : NU.spA (L s)
            · exact absurd (fun h => by rw [hA] at h; cases h) hau
            · cases hS : NU.spS (L s)
              · exact FnRequest_out s w ht hb (.inr ⟨hv, .inr ⟨hf, .inl ⟨hA, hS⟩⟩⟩)
              · exact absurd (fun _ => hS) hau
      · exact FnRequest_out s w ht hb (.inr ⟨hv, .inl hf⟩)
  · have hb : 2147483647 < (s.size : Int) := by omega
    go_enter Tryz.func3, Tryz.ntmps3
    go_wp2
    go_ret
    exact ⟨rfl, Fr.refl _⟩
end Go.Proofs.YtibcegbacnjmfaaGreatDoor
