import Derived.Test.YtcbmfimafiolaaaW10
import Derived.Deep.RegionWith
namespace Go.Proofs.Ytcbmfimafiolaaa
open Go.RowKit

section
variable {w : World} {g : Nat} {hs : Bool} {sc : ByteArray} {ha : Bool} {au pa : ByteArray} {hq : Bool} {qu : ByteArray} {hf : Bool} {fr : ByteArray}
theorem refCells (h : Blk w g 24 (refA hs sc ha au pa hq qu hf fr)) :
    w.cell? ⟨g, 0, none⟩ = some (.bool hs) ∧ w.cell? ⟨g, 1, none⟩ = some (.string sc) ∧ w.cell? ⟨g, 2, none⟩ = some (.bool ha) ∧ w.cell? ⟨g, 3, none⟩ = some (.string au) ∧
    w.cell? ⟨g, 4, none⟩ = some (.string pa) ∧ w.cell? ⟨g, 5, none⟩ = some (.bool hq) ∧ w.cell? ⟨g, 6, none⟩ = some (.string qu) ∧ w.cell? ⟨g, 7, none⟩ = some (.bool hf) ∧ w.cell? ⟨g, 8, none⟩ = some (.string fr) :=
  ⟨h.cell 0, h.cell 1, h.cell 2, h.cell 3, h.cell 4, h.cell 5, h.cell 6, h.cell 7, h.cell 8⟩
end
theorem L_3a : L ⟨#[58, 64, 47]⟩ = [58, 64, 47] := rfl
theorem L_4a : L ⟨#[58, 64, 47, 63]⟩ = [58, 64, 47, 63] := rfl

set_option maxRecDepth 100000 in
set_option maxHeartbeats 2000000 in
theorem Valid_any (hs : Bool) (sc : ByteArray) (ha : Bool) (au pa : ByteArray) (hq : Bool) (qu : ByteArray) (hf : Bool) (fr : ByteArray) (w : World)
    (h1 : sc.size ≤ 1099511627776) (h2 : au.size ≤ 1099511627776) (h3 : pa.size ≤ 1099511627776) (h4 : qu.size ≤ 1099511627776) (h5 : fr.size ≤ 1099511627776) :
    Calls Try.prog 12 #[.agg (refA hs sc ha au pa hq qu hf fr)] w fun e w' => e = .returned (.bool (NU.validR hs (L sc) ha (L au) (L pa) (L qu) (L fr))) ∧ Fr w w' := by
  obtain ⟨S1, hS1⟩ : ∃ b, b = NU.schm (L sc) := ⟨_, rfl⟩
  obtain ⟨S2, hS2⟩ : ∃ b, b = NU.chars [58, 64, 47] true (L pa) := ⟨_, rfl⟩
  obtain ⟨S3, hS3⟩ : ∃ b, b = NU.chars [58, 64, 47, 63] true (L qu) := ⟨_, rfl⟩
  obtain ⟨S4, hS4⟩ : ∃ b, b = NU.chars [58, 64, 47, 63] true (L fr) := ⟨_, rfl⟩
  obtain ⟨V, hV⟩ : ∃ b, b = (if ha then NU.auOk (L au) && ((L pa).isEmpty || (L pa).head? == some 47) else !NU.begins (L pa) [47, 47] && (hs || decide (NU.index ((L pa).take (NU.index (L pa) [47])) [58] = NU.index (L pa) [47]))) := ⟨_, rfl⟩
  have HX : Hid (NU.validR hs (L sc) ha (L au) (L pa) (L qu) (L fr) = (!(hs && !S1) && S2 && S3 && S4 && V)) := by show _ = _; rw [NU.validR, hS1, hS2, hS3, hS4, hV]
  have C1 := Lib.hid (fun W => isScheme_any sc W h1)
  have C2 := Lib.hid (fun W => chars_any pa ⟨#[58, 64, 47]⟩ true W h3 (by show (3 : Nat) ≤ 1099511627776; omega))
  have C3 := Lib.hid (fun W => chars_any qu ⟨#[58, 64, 47, 63]⟩ true W h4 (by show (4 : Nat) ≤ 1099511627776; omega))
  have C4 := Lib.hid (fun W => chars_any fr ⟨#[58, 64, 47, 63]⟩ true W h5 (by show (4 : Nat) ≤ 1099511627776; omega))
  simp only [L_3a, L_4a] at C2 C3 C4
  rw [← hS1] at C1
  rw [← hS2] at C2
  rw [← hS3] at C3
  rw [← hS4] at C4
  rw [HX.out]
  have HV := Lib.hid hV
  clear hS1 hS2 hS3 hS4 hV HX
  have hk0 := Blk.new w 24 (refA hs sc ha au pa hq qu hf fr)
  have hfr0 : Fr w (w.alloc (refO hs sc ha au pa hq qu hf fr)) := (Fr.refl _).alloc _
  go_enter Try.func12, Try.ntmps12
  go_upto_region 1 with fail
  go_cut [31] (fun c wx => c = .bool (!(!(hs && !S1) && S2 && S3 && S4)) ∧ Fr w wx ∧ Blk wx w.heap.size 24 (refA hs sc ha au pa hq qu hf fr))
  case first =>
    cases hs
    all_goals
      go_wp2_with (first
        | (go_at_call 29; refine (C1.out _).mono ?_; rintro e w1 ⟨rfl, hf1⟩; have hk1 := Blk.below (by assumption) hf1 (Blk.lt (by assumption)); have hfr1 := Fr.trans (by assumption) hf1; clear hf1; obtain ⟨c0, c1, c2, c3, c4, c5, c6, c7, c8⟩ := refCells hk1)
        | (go_at_call_of 30 (Value.string pa); refine (C2.out _).mono ?_; rintro e w1 ⟨rfl, hf1⟩; have hk1 := Blk.below (by assumption) hf1 (Blk.lt (by assumption)); have hfr1 := Fr.trans (by assumption) hf1; clear hf1; obtain ⟨c0, c1, c2, c3, c4, c5, c6, c7, c8⟩ := refCells hk1)
        | (go_at_call_of 30 (Value.string qu); refine (C3.out _).mono ?_; rintro e w1 ⟨rfl, hf1⟩; have hk1 := Blk.below (by assumption) hf1 (Blk.lt (by assumption)); have hfr1 := Fr.trans (by assumption) hf1; clear hf1; obtain ⟨c0, c1, c2, c3, c4, c5, c6, c7, c8⟩ := refCells hk1)
        | (go_at_call_of 30 (Value.string fr); refine (C4.out _).mono ?_; rintro e w1 ⟨rfl, hf1⟩; have hk1 := Blk.below (by assumption) hf1 (Blk.lt (by assumption)); have hfr1 := Fr.trans (by assumption) hf1; clear hf1; obtain ⟨c0, c1, c2, c3, c4, c5, c6, c7, c8⟩ := refCells hk1))
      all_goals go_meet
      all_goals
        case rel => exact ⟨congrArg Value.bool (by simp_all), by assumption, by assumption⟩
  case rest =>
    obtain ⟨rfl, hfr1, hk1⟩ := hcut
    clear hk0 hfr0 C1 C2 C3 C4
    obtain ⟨c0, c1, c2, c3, c4, c5, c6, c7, c8⟩ := refCells hk1
    by_cases hx : (!(hs && !S1) && S2 && S3 && S4) = true
    · rw [hx]
      have HX := Lib.hid hx
      have hl := hk1.lt
      clear hx
      cases ha
      · have HV' : Hid (V = (!NU.begins (L pa) [47, 47] && (hs || decide (NU.index ((L pa).take (NU.index (L pa) [47])) [58] = NU.index (L pa) [47])))) := HV.out
        clear HV
        by_cases hb : NU.begins (L pa) [47, 47] = true
        · have CB := Lib.hid (fun W => begins_any pa ⟨#[47, 47]⟩ W h3 (by show (2 : Nat) ≤ 1099511627776; omega))
          rw [show L ⟨#[47, 47]⟩ = [47, 47] from rfl, hb] at CB
          have HB := Lib.hid hb
          clear hb
          go_wp2_with (go_at_call 28; refine (CB.out _).mono ?_; rintro e w' ⟨rfl, rfl⟩)
          go_ret
          exact ⟨ret_bool (by rw [HX.out, HV'.out, HB.out]; rfl), hfr1⟩
        · have hb : NU.begins (L pa) [47, 47] = false := by simpa using hb
          have CB := Lib.hid (fun W => begins_any pa ⟨#[47, 47]⟩ W h3 (by show (2 : Nat) ≤ 1099511627776; omega))
          rw [show L ⟨#[47, 47]⟩ = [47, 47] from rfl, hb] at CB
          have HB := Lib.hid hb
          obtain ⟨n, hn⟩ : ∃ n, n = NU.index (L pa) [47] := ⟨_, rfl⟩
          have hnle : n ≤ pa.size := by rw [hn, ← L_length]; exact NU.index_le _ _
          have CI := Lib.hid (fun W => index_any pa ⟨#[47]⟩ W h3 (by show (1 : Nat) ≤ 1099511627776; omega))
          rw [show L ⟨#[47]⟩ = [47] from rfl, ← hn] at CI
          obtain ⟨q, hq'⟩ : ∃ q, q = pa.extract 0 n := ⟨_, rfl⟩
          have HQ : Hid (L q = (L pa).take n) := by show _ = _; rw [hq', ext_to, L_mk]
          have hqz : q.size ≤ 1099511627776 := by rw [← L_length, HQ.out, List.length_take, L_length]; omega
          have hq2 := hq'.symm
          obtain ⟨m, hm⟩ : ∃ m, m = NU.index (L q) [58] := ⟨_, rfl⟩
          have CJ := Lib.hid (fun W => index_any q ⟨#[58]⟩ W hqz (by show (1 : Nat) ≤ 1099511627776; omega))
          rw [show L ⟨#[58]⟩ = [58] from rfl, ← hm] at CJ
          have HV2 : Hid (V = (hs || decide (m = n))) := by show _ = _; rw [HV'.out, hb, hm, HQ.out, hn]; rfl
          clear hb hn hq' hm HV'
          cases hs
          all_goals
            go_wp2_with (first
              | (go_at_call 28; refine (CB.out _).mono ?_; rintro e w' ⟨rfl, rfl⟩)
              | (go_at_call_of 27 (Value.string pa); refine (CI.out _).mono ?_; rintro e w' ⟨rfl, n1, rfl⟩)
              | (go_at_call_of 27 (Value.string q); refine (CJ.out _).mono ?_; rintro e w' ⟨rfl, n2, rfl⟩))
            go_ret
            refine ⟨ret_bool ?_, by first | exact hfr1.drewN _ | exact (hfr1.drewN _).drewN _⟩
            rw [HX.out, HV2.out]
            first | rfl | (rw [Bool.eq_iff_iff]; simp; try omega)
      · have HV' : Hid (V = (NU.auOk (L au) && ((L pa).isEmpty || (L pa).head? == some 47))) := HV.out
        clear HV
        obtain ⟨O, hO⟩ : ∃ O, O = NU.auOk (L au) := ⟨_, rfl⟩
        have CA := Lib.hid (fun W => isAuthority_any au W h2)
        unfold auV at CA
        rw [← hO] at CA HV'
        clear hO
        by_cases h0 : L pa = []
        · have he : pa.toList = [] := by rw [Lib.toList_data]; exact h0
          have HV2 : Hid (V = O) := by show _ = _; rw [HV'.out, h0]; simp
          clear h0 HV'
          cases O
          all_goals
            go_wp2_with (go_at_call 31; refine (CA.out _).mono ?_; rintro e w1 ⟨rfl, hf1⟩; have hk2 := Blk.below hk1 hf1 hk1.lt; have hfr2 := Fr.trans hfr1 hf1; have hl2 := hk2.lt; clear hf1; obtain ⟨d0, d1, d2, d3, d4, d5, d6, d7, d8⟩ := refCells hk2)
            go_ret
            exact ⟨ret_bool (by rw [HX.out, HV2.out]; rfl), hfr2.alloc _⟩
        · have he : ¬ pa.toList = [] := by rw [Lib.toList_data]; exact h0
          have he' : pa.toList.isEmpty = false := by simpa using he
          have hp0 : 0 < pa.size := by rw [← L_length]; exact List.length_pos_iff.2 h0
          have HV2 : Hid (V = (O && (pa[0] == 47))) := by
            show _ = _
            have := drop_cons pa 0 hp0
            simp only [List.drop_zero, Nat.zero_add] at this
            rw [HV'.out, this]; simp
          obtain ⟨b, hb⟩ : ∃ b, b = (pa[0] == 47) := ⟨_, rfl⟩
          have hb1 : ((pa[0].toNat : Int) == 47) = b := by rw [hb]; exact u8_eq pa[0] 47
          rw [← hb] at HV2
          clear h0 HV' hb
          cases O
          all_goals
            go_wp2_with (go_at_call 31; refine (CA.out _).mono ?_; rintro e w1 ⟨rfl, hf1⟩; have hk2 := Blk.below hk1 hf1 hk1.lt; have hfr2 := Fr.trans hfr1 hf1; have hl2 := hk2.lt; clear hf1; obtain ⟨d0, d1, d2, d3, d4, d5, d6, d7, d8⟩ := refCells hk2)
            go_ret
            exact ⟨ret_bool (by rw [HX.out, HV2.out]; rfl), hfr2.alloc _⟩
    · have hx : (!(hs && !S1) && S2 && S3 && S4) = false := by simpa using hx
      rw [hx]
      have HX := Lib.hid hx
      clear hx
      go_wp2
      go_ret
      exact ⟨ret_bool (by rw [HX.out]; rfl), hfr1⟩
end Go.Proofs.Ytcbmfimafiolaaa
