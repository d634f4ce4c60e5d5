import Derived.Test.YtibcegbacnjmfaaGreatDoorW93
namespace Go.Proofs.YtibcegbacnjmfaaGreatDoor
set_option linter.unusedVariables false
set_option linter.unusedSimpArgs false
open Go.RowKit

/-- A part of the sixteen bytes. -/
theorem slice16 (g i n : Nat) (x : Int) (hx : x = (i : Int) + (n : Int)) (h : i + n ≤ 16) (h' : i < 16) (W : World) :
    (Instr.sliceAt 146 (.pointer (some ⟨g, 0, none⟩)) (some (.int .i64 (i : Int))) (some (.int .i64 x)) none).run Tryz.prog W = .ok (.slice (some ⟨g, i, none⟩) n (16 - i)) W := by
  have hal : Tryz.prog.arrayLen 146 = 16 := by simp [Program.arrayLen, Tryz.underlying146]
  rw [run_sliceAt_array_lh W 146 ⟨g, 0, none⟩ (by simp [Program.arrayLen, Program.elem, Tryz.underlying146]) .i64 .i64 (i : Int) x (by omega) (by omega) (by rw [hal]; omega), hal]
  have e1 : x.toNat = i + n := by omega
  have e2 : ¬ 16 = i := by omega
  go_simp
  omega
/-- What of the address stands before the loop: no ellipsis, or one at the head. -/
def V6At (s t : ByteArray) (k i : Nat) (e : Bool) (ell : Int) : Prop :=
  s.extract k s.size = t ∧ t.size + k = s.size ∧ i < 16 ∧ i % 2 = 0 ∧ (∃ d r, L t = d :: r) ∧ (∃ n, NU.v6go n i e (L t) = true) ∧ (e = true → 0 ≤ ell ∧ ell ≤ i) ∧ (e = false → ell = -1)
set_option maxRecDepth 100000 in
set_option maxHeartbeats 16000000 in
theorem parseIPv6_any (s : ByteArray) (hs : s.size ≤ 35184372088832) (h37 : (37 : UInt8) ∉ L s) (hv : NU.v6b (L s) = true)
    (a4 a6 : Addr) (c4 c6 : Array Value) (t4 t6 : TypeId) (hne : a6 ≠ a4) (w : World) (h4 : w.cell? ⟨3, 0, none⟩ = some (.pointer (some a4))) (h6 : w.cell? ⟨6, 0, none⟩ = some (.pointer (some a6))) (h0 : w.cell? ⟨7, 0, none⟩ = some (.pointer none))
    (k4 : w.heap[a4.block]? = some (.cells c4 t4 (0, 0))) (k6 : w.heap[a6.block]? = some (.cells c6 t6 (0, 0))) :
    Calls Tryz.prog 92 #[.string s] w fun e w' => (∃ hi lo, e = .returned (.tuple #[.agg #[.int .u64 hi, .int .u64 lo, .pointer (some a6)], .nilIface])) ∧ Fr w w' := by
  have q37 := ibs_run s h37
  have CU := Lib.hid (fun W (f : Fr w W) => Unspecified_any a6 W (cell_keep f h6))
  have CZ := Lib.hid (fun hi lo W (f : Fr w W) => WithZone_any hi lo a4 a6 c4 c6 t4 t6 hne W (cell_keep f h4) (cell_keep f h6) (cell_keep f h0) (heap_keep f k4) (heap_keep f k6))
  replace h6 := Lib.hid h6
  clear h4 h0 k4 k6 h37
  replace hv := Lib.hid hv
  go_enter Tryz.func92, Tryz.ntmps92
  go_upto_region 10 with fail
  go_cut [46] (fun c wx => c = .bool (NU.begins (L s) [58, 58]) ∧ wx = ((w.alloc (.cells #[.int .u64 0, .int .u64 0, .pointer none] 121)).alloc (.cells (Array.replicate 16 (.int .u8 0)) 146)))
  case first =>
    as_aux_lemma =>
      by_cases h2 : 2 ≤ s.size
      · have i0 : 0 < s.size := by omega
        have i1 : 1 < s.size := by omega
        have h2' : 2 ≤ (s.size : Int) := by omega
        have HBg : Hid (NU.begins (L s) [58, 58] = ((((s[0].toNat : Int) == 58)) && ((s[1].toNat : Int) == 58))) := by
          show _ = _
          have e : L s = s[0] :: s[1] :: (L s).drop 2 := by
            have e1 := drop_cons s 0 i0
            have e2 := drop_cons s 1 i1
            rw [List.drop_zero] at e1
            rw [e1, e2]; rfl
          rw [e, show (58 : Int) = ((58 : UInt8).toNat : Int) from rfl, u8beq, u8beq]
          simp [NU.begins, List.isPrefixOf, Bool.beq_comm, BEq.comm]
        cases c0 : ((s[0].toNat : Int) == 58)
        · go_wp2
          go_meet
          exact ⟨by rw [HBg.out, c0]; rfl, rfl⟩
        · go_wp2
          go_meet
          exact ⟨by rw [HBg.out, c0]; rfl, rfl⟩
      · have h2' : ¬ 2 ≤ (s.size : Int) := by omega
        have HBg : Hid (NU.begins (L s) [58, 58] = false) := by
          show _ = _
          rw [Bool.eq_false_iff]; intro e
          have := (List.isPrefixOf_iff_prefix.1 e).length_le
          rw [L_length] at this; simp at this; omega
        go_wp2
        go_meet
        exact ⟨by rw [HBg.out], rfl⟩
  case rest =>
  as_aux_lemma =>
  obtain ⟨rfl, rfl⟩ := hcut
  obtain ⟨W0, hW0⟩ : ∃ W0, W0 = ((w.alloc (.cells #[.int .u64 0, .int .u64 0, .pointer none] 121)).alloc (.cells (Array.replicate 16 (.int .u8 0)) 146)) := ⟨_, rfl⟩
  have F0 : Hid (Fr w W0) := by rw [hW0]; exact Lib.hid (((Fr.refl w).alloc _).alloc _)
  have R0 : Hid (Blk W0 w.heap.size 121 #[.int .u64 0, .int .u64 0, .pointer none]) := by rw [hW0]; exact Lib.hid ((Blk.new w _ _).alloc _)
  have A0 : Hid (B16 W0 (w.heap.size + 1)) := by
    rw [hW0]
    have := B16.new (w.alloc (.cells #[.int .u64 0, .int .u64 0, .pointer none] 121))
    simp only [World.alloc, Array.size_push] at this ⊢
    exact Lib.hid this
  rw [← hW0]
  clear hW0
  go_upto_if 46 with fail
  go_cut [4, 8] (fun s4 s8 wx => wx = W0 ∧ ∃ (t : ByteArray) (k : Nat) (e : Bool) (ell : Int), s4 = .string t ∧ s8 = .int .i64 ell ∧ Hid (V6At s t k 0 e ell))
  case first =>
    as_aux_lemma =>
      cases hb : NU.begins (L s) [58, 58]
      · obtain ⟨d, r, hd, hg⟩ := NU.v6b_one hv.out hb
        go_wp2
        go_meet
        exact ⟨rfl, s, 0, false, -1, rfl, rfl, Lib.hid ⟨by simp, by omega, by omega, rfl, ⟨d, r, hd⟩, ⟨9, by rw [hd]; exact hg⟩, fun h => (by cases h), fun _ => rfl⟩⟩
      · have h2 : 2 ≤ s.size := by
          have := (List.isPrefixOf_iff_prefix.1 hb).length_le
          rw [L_length] at this; simpa using this
        have h2' : (2 : Int) ≤ (s.size : Int) := by omega
        obtain ⟨t, ht⟩ : ∃ t, s.extract 2 s.size = t := ⟨_, rfl⟩
        have hts := cut_size ht h2
        have htL := cut_L ht
        have hv2 := NU.v6b_dbl hv.out hb
        rw [← htL] at hv2
        rcases hv2 with hv2 | ⟨d, r, hd, hg⟩
        · have hz : t.size = 0 := by rw [← L_length, hv2]; rfl
          have hz' : ((t.size : Int) == 0) = true := by rw [hz]; rfl
          clear hv2 htL hts
          go_wp2_with (first
            | (go_at_call 99; (with_reducible refine (CU.out _ F0.out).mono ?_); rintro e w1 ⟨rfl, hf1⟩; have F1 := Lib.hid (F0.out.trans hf1); have R1 := Lib.hid (R0.out.below hf1 R0.out.lt))
            | (go_at_call 100; (with_reducible refine (CZ.out _ _ _ F1.out).mono ?_); rintro e w2 ⟨rfl, hf2⟩; have F2 := Lib.hid (F1.out.trans hf2); have R2 := Lib.hid (R1.out.below hf2 R1.out.lt))
            | (refine wpList_store_ip rfl _ _ rfl _ _ rfl rfl _ _ R2 rfl rfl (ip_one _ _ _) ?_)
            | fail)
          (try simp only [Exit.inBlock, Exit.then])
          refine bodyPost_ret (ret_ip2 rfl _ _ _ rfl _ _ (R2.out.row _) rfl) rfl ?_
          exact ⟨⟨0, 0, rfl⟩, F2.out.setRow (Nat.le_refl _) _⟩
        · have hz : 0 < t.size := by rw [← L_length, hd]; simp
          have hz' : ((t.size : Int) == 0) = false := by rw [beq_eq_false_iff_ne]; omega
          have HV : Hid (V6At s t 2 0 true 0) := Lib.hid ⟨ht, by omega, by omega, rfl, ⟨d, r, hd⟩, ⟨9, by rw [hd]; exact hg⟩, fun _ => ⟨by omega, by omega⟩, fun h => by cases h⟩
          clear htL hts hd hg
          go_wp2
          go_meet
          exact ⟨rfl, t, 2, true, 0, rfl, rfl, HV⟩
  case rest =>
  as_aux_lemma =>
  obtain ⟨rfl, t0, p0, e0, ell0, rfl, rfl, HV0⟩ := hcut
  go_upto_block 0 with fail
  go_cut [4, 6, 8] (fun s4 s6 s8 wx => ∃ (x : ByteArray) (i : Nat) (ell : Int), s4 = .string x ∧ s6 = .int .i64 (i : Int) ∧ s8 = .int .i64 ell ∧ x.size = 0 ∧ i ≤ 16 ∧ (i < 16 ∧ 0 ≤ ell ∧ ell ≤ i ∨ i = 16 ∧ ell = -1) ∧ Hid (Fr w wx) ∧ Hid (Blk wx w.heap.size 121 #[.int .u64 0, .int .u64 0, .pointer none]) ∧ Hid (B16 wx (w.heap.size + 1)))
  case first =>
    as_aux_lemma =>
      go_wp2_with fail
      go_loopw [4, 6, 8] (fun s4 s6 s8 wx => ∃ (t : ByteArray) (k i : Nat) (e : Bool) (ell : Int), s4 = .string t ∧ s6 = .int .i64 (i : Int) ∧ s8 = .int .i64 ell ∧ Hid (V6At s t k i e ell) ∧ Hid (Fr w wx) ∧ Hid (Blk wx w.heap.size 121 #[.int .u64 0, .int .u64 0, .pointer none]) ∧ Hid (B16 wx (w.heap.size + 1))) (fun s4 _ _ _ => strLn s4)
      case atStart => exact ⟨t0, p0, 0, e0, ell0, rfl, rfl, rfl, HV0, F0, R0, A0⟩
      case round =>
        obtain ⟨t, k, i, e, ell, rfl, rfl, rfl, HV, HF, HR, HA⟩ := hrel
        obtain ⟨hT, hTk, hi16, hi2, ⟨d0, r0, hd0⟩, ⟨n0, hgo⟩, hel1, hel0⟩ := HV.out
        obtain ⟨hh1, hh4, hcase⟩ := NU.v6go_step hgo hi16
        have hhl := NU.hexRun_le (L t)
        rw [L_length] at hhl
        obtain ⟨h, hh⟩ : ∃ h, h = NU.hexRun (L t) := ⟨_, rfl⟩
        have HX : Hid (∀ o, (ho : o < t.size) → o < h → NU.isHex t[o] = true) := by
          show ∀ (o : Nat) (ho : o < t.size), o < h → NU.isHex t[o] = true
          intro o ho hoh
          have := NU.hexRun_hex (L t) o (by omega) (by rw [L_length]; exact ho)
          exact this
        have HN : Hid (∀ ho : h < t.size, NU.isHex t[h] = false) := by
          show ∀ ho : h < t.size, NU.isHex t[h] = false
          intro ho
          have := NU.hexRun_stop (L t) (by rw [L_length, ← hh]; exact ho)
          simp only [← hh] at this
          exact this
        rw [← hh] at hh1 hh4 hhl hcase
        have hi16' : (i : Int) < 16 := by omega
        have ht45 : t.size ≤ 35184372088832 := by omega
        replace hcase := Lib.hid hcase
        clear hgo hd0 hh
        go_upto_block 2 with fail
        go_cut [9, 10] (fun s9 s10 wx => wx = wr ∧ s9 = .int .i64 (h : Int) ∧ ∃ a : Int, s10 = .int .u32 a ∧ 0 ≤ a ∧ a ≤ 65535)
        case first =>
          as_aux_lemma =>
            go_wp2_with fail
            go_loopw [9, 10] (fun s9 s10 wx => wx = wr ∧ ∃ (o : Nat) (a : Int), s9 = .int .i64 (o : Int) ∧ s10 = .int .u32 a ∧ o ≤ h ∧ 0 ≤ a ∧ a ≤ 65535 ∧ (o ≤ 3 → a ≤ 4095) ∧ (o ≤ 2 → a ≤ 255) ∧ (o ≤ 1 → a ≤ 15) ∧ (o = 0 → a = 0)) (fun s9 _ _ => t.size - (intOf s9).toNat)
            case atStart => exact ⟨rfl, 0, 0, rfl, rfl, by omega, by omega, by omega, by omega, by omega, by omega, by omega⟩
            case round =>
              obtain ⟨rfl, o, a, rfl, rfl, hoh, ha0, ha5, ha3, ha2, ha1, haz⟩ := hrel
              by_cases hoh2 : o < h
              case pos =>
                have hlt : o < t.size := by omega
                have hlt' : (o : Int) < (t.size : Int) := by omega
                have hxx := NU.hexv_hex (HX.out o hlt hoh2)
                have ha3' := ha3 (by omega)
                have ho3 : (o : Int) ≤ 3 := by omega
                rcases hxx with ⟨x1, x2⟩ | ⟨x1, x2⟩ | ⟨x1, x2⟩
                · have g1 : 48 ≤ (t[o].toNat : Int) := by omega
                  have g2 : (t[o].toNat : Int) ≤ 57 := by omega
                  clear x1 x2
                  go_wp2
                  go_roundw
                  case rel => exact ⟨trivial, o + 1, a * 16 + ((t[o].toNat : Int) - 48), by first | rfl | go_num, by first | rfl | go_num, by omega, by omega, by omega, by omega, by omega, by omega, by omega⟩
                  case measure => first | (simp [intOf]; done) | (simp [intOf]; omega)
                · have g1 : 97 ≤ (t[o].toNat : Int) := by omega
                  have g2 : (t[o].toNat : Int) ≤ 102 := by omega
                  have g3 : 57 < (t[o].toNat : Int) := by omega
                  clear x1 x2
                  go_wp2
                  go_roundw
                  case rel => exact ⟨trivial, o + 1, a * 16 + ((t[o].toNat : Int) - 97 + 10), by first | rfl | go_num, by first | rfl | go_num, by omega, by omega, by omega, by omega, by omega, by omega, by omega⟩
                  case measure => first | (simp [intOf]; done) | (simp [intOf]; omega)
                · have g1 : 65 ≤ (t[o].toNat : Int) := by omega
                  have g2 : (t[o].toNat : Int) ≤ 70 := by omega
                  have g3 : 57 < (t[o].toNat : Int) := by omega
                  have g4 : (t[o].toNat : Int) < 97 := by omega
                  clear x1 x2
                  go_wp2
                  go_roundw
                  case rel => exact ⟨trivial, o + 1, a * 16 + ((t[o].toNat : Int) - 65 + 10), by first | rfl | go_num, by first | rfl | go_num, by omega, by omega, by omega, by omega, by omega, by omega, by omega⟩
                  case measure => first | (simp [intOf]; done) | (simp [intOf]; omega)
              case neg =>
                obtain rfl : o = h := by omega
                by_cases hlt : o < t.size
                · have hlt' : (o : Int) < (t.size : Int) := by omega
                  have hno := NU.hexv_no (HN.out hlt)
                  have hr : (t[o].toNat : Int) < 48 ∨ (57 < (t[o].toNat : Int) ∧ (t[o].toNat : Int) < 65) ∨ (70 < (t[o].toNat : Int) ∧ (t[o].toNat : Int) < 97) ∨ 102 < (t[o].toNat : Int) := by omega
                  clear hno
                  rcases hr with g | ⟨g, g'⟩ | ⟨g, g'⟩ | g
                  · go_wp2
                    go_meet
                    exact ⟨rfl, rfl, a, rfl, ha0, ha5⟩
                  · go_wp2
                    go_meet
                    exact ⟨rfl, rfl, a, rfl, ha0, ha5⟩
                  · have g3 : 57 < (t[o].toNat : Int) := by omega
                    go_wp2
                    go_meet
                    exact ⟨rfl, rfl, a, rfl, ha0, ha5⟩
                  · have g3 : 57 < (t[o].toNat : Int) := by omega
                    have g4 : 70 < (t[o].toNat : Int) := by omega
                    go_wp2
                    go_meet
                    exact ⟨rfl, rfl, a, rfl, ha0, ha5⟩
                · have hlt' : ¬ ((o : Int) < (t.size : Int)) := by omega
                  go_wp2
                  go_meet
                  exact ⟨rfl, rfl, a, rfl, ha0, ha5⟩
        case rest =>
        as_aux_lemma =>
        obtain ⟨rfl, rfl, a, rfl, ha0, ha5⟩ := hcut
        have hh0 : ((h : Int) == 0) = false := by rw [beq_eq_false_iff_ne]; omega
        have hhlI : (h : Int) ≤ (t.size : Int) := by omega
        have hc0 := HA.out.cell i (by omega)
        have hc1 := HA.out.cell (i + 1) (by omega)
        obtain ⟨z0, hz0, _⟩ := hc0
        obtain ⟨z1, hz1, _⟩ := hc1
        have fz0 := HA.out.frozen i
        have fz1 := HA.out.frozen (i + 1)
        have hi1 : (i : Int) + 1 < 16 := by omega
        clear HX HN
        rcases hcase.out with ⟨h46, he, hi4, hv4, hend⟩ | ⟨hdr, hend⟩ | ⟨d, r, m, hdr, hd58, hgo⟩ | ⟨hdr, he, hend⟩ | ⟨d, r, m, hdr, he, hgo⟩
        · -- the last two groups are an IPv4 address
          obtain ⟨r, hdr⟩ : ∃ r, (L t).drop h = 46 :: r := by
            cases hd : (L t).drop h with
            | nil => rw [hd] at h46; cases h46
            | cons c r => rw [hd] at h46; simp at h46; subst h46; exact ⟨r, rfl⟩
          obtain ⟨hk, hck, _⟩ := get_of hdr
          have hltI : (h : Int) < (t.size : Int) := by omega
          have h46i : ((t[h].toNat : Int) == 46) = true := by rw [hck]; rfl
          have hkk : (s.size : Int) - (t.size : Int) = (k : Int) := by omega
          have hi4i : (i : Int) + 4 ≤ 16 := by omega
          have C4 := Lib.hid (fun W hW => parseIPv4Fields_any s t k s.size (w.heap.size + 1) i (16 - i) (by omega) (Nat.le_refl _) hs hT (by omega) hv4 (by omega) W hW)
          have hcs : (ell < 0) = False ∨ ((ell < 0) = True ∧ ((i : Int) != 12) = false) := by
            rcases he with he | he
            · left; have := hel1 he; simp; omega
            · cases e
              · right; have := hel0 rfl; subst this; subst he; exact ⟨by simp, rfl⟩
              · left; have := hel1 rfl; simp; omega
          have HEND : Hid (i + 4 < 16 ∧ 0 ≤ ell ∧ ell ≤ (i + 4 : Nat) ∨ i + 4 = 16 ∧ ell = -1) := by
            show _ ∨ _
            unfold NU.v6end at hend
            split at hend
            · left; have := hel1 hend; omega
            · right; have := hel0 (by simpa using hend); omega
          clear hdr hcase hck hel1 hel0 h46 he hv4 hend
          have SL := slice16 (w.heap.size + 1) i 4 ((i : Int) + 4) rfl hi4 hi16
          rcases hcs with hcs | ⟨hcs, hcs2⟩
          · have hcs' : 0 ≤ ell := by simpa using hcs
            clear hcs
            go_wp2_with (first
              | (go_at_call 96; (with_reducible refine (C4.out _ HA).mono ?_); rintro e4 w4 ⟨rfl, hg4, hb4⟩)
              | fail)
            go_meet
            exact ⟨ByteArray.empty, i + 4, ell, rfl, by first | rfl | go_num, rfl, rfl, by omega, HEND.out, Lib.hid (fr_grown HF.out hg4 (by omega)), Lib.hid (HR.out.grown hg4 (by omega)), Lib.hid hb4⟩
          · have hcs' : ell < 0 := by simpa using hcs
            clear hcs
            go_wp2_with (first
              | (go_at_call 96; (with_reducible refine (C4.out _ HA).mono ?_); rintro e4 w4 ⟨rfl, hg4, hb4⟩)
              | fail)
            go_meet
            exact ⟨ByteArray.empty, i + 4, ell, rfl, by first | rfl | go_num, rfl, rfl, by omega, HEND.out, Lib.hid (fr_grown HF.out hg4 (by omega)), Lib.hid (HR.out.grown hg4 (by omega)), Lib.hid hb4⟩
        · -- the end
          have hth : t.size ≤ h := by
            rcases Nat.lt_or_ge h t.size with hk | hk
            · rw [drop_cons t h hk] at hdr; cases hdr
            · exact hk
          obtain rfl : h = t.size := by omega
          obtain ⟨t1, ht1⟩ : ∃ t1, t.extract t.size t.size = t1 := ⟨_, rfl⟩
          have hts := cut_size ht1 (Nat.le_refl _)
          have hz1' : t1.size = 0 := by omega
          have hz1i : ((t1.size : Int) == 0) = true := by rw [hz1']; rfl
          have hlt : ¬ ((t.size : Int) < (t.size : Int)) := by omega
          clear hdr hcase hth
          go_wp2
          go_meet
          refine ⟨ByteArray.empty, i + 2, ell, rfl, by first | rfl | go_num, rfl, rfl, by omega, ?_, ?_, ?_, ?_⟩
          · unfold NU.v6end at hend
            split at hend
            · left; have := hel1 hend; omega
            · right; have := hel0 (by simpa using hend); omega
          · exact Lib.hid ((HF.out.setCell (p := ⟨w.heap.size + 1, i, none⟩) (by simp) _).setCell (p := ⟨w.heap.size + 1, i + 1, none⟩) (by simp) _)
          · exact Lib.hid ((HR.out.far (by simp) _).far (by simp) _)
          · exact Lib.hid ((HA.out.set_ i _ (by omega) (by omega)).set_ (i + 1) _ (by omega) (by omega))
        · -- a colon, and more
          obtain ⟨hk, hck, _⟩ := get_of hdr
          have hltI : (h : Int) < (t.size : Int) := by omega
          have h46 : ((t[h].toNat : Int) == 46) = false := by rw [hck]; rfl
          obtain ⟨t1, ht1⟩ : ∃ t1, t.extract h t.size = t1 := ⟨_, rfl⟩
          have hts1 := cut_size ht1 (by omega)
          have hL1 := cut_L ht1
          rw [hdr] at hL1
          have hz1 : t1.size = (L t1).length := (L_length t1).symm
          rw [hL1] at hz1
          simp only [List.length_cons] at hz1
          have i1 : 0 < t1.size := by omega
          have hz1i : ((t1.size : Int) == 0) = false := by rw [beq_eq_false_iff_ne]; omega
          have hz1j : ((t1.size : Int) == 1) = false := by rw [beq_eq_false_iff_ne]; omega
          have h1le : (1 : Int) ≤ (t1.size : Int) := by omega
          obtain ⟨_, hc1', _⟩ := get_of (t := t1) (k := 0) (by rw [List.drop_zero]; exact hL1)
          have hc1i : ((t1[0].toNat : Int) != 58) = false := by rw [hc1']; rfl
          obtain ⟨t2, ht2⟩ : ∃ t2, t1.extract 1 t1.size = t2 := ⟨_, rfl⟩
          have hts2 := cut_size ht2 (by omega)
          have hL2 := cut_L ht2
          rw [hL1, List.drop_succ_cons, List.drop_zero] at hL2
          have i2 : 0 < t2.size := by omega
          obtain ⟨_, hc2', _⟩ := get_of (t := t2) (k := 0) (by rw [List.drop_zero]; exact hL2)
          have hc2i : ((t2[0].toNat : Int) == 58) = false := by rw [hc2', beq_eq_false_iff_ne]; intro e3; exact hd58 (UInt8.toNat_inj.1 (by have : (58 : UInt8).toNat = 58 := rfl; omega))
          have HV2 : Hid (V6At s t2 (k + h + 1) (i + 2) e ell) := Lib.hid ⟨cut_more (cut_more hT ht1) ht2, by omega, NU.v6go_lt hgo, by omega, ⟨d, r, hL2⟩, ⟨m, by rw [hL2]; exact hgo⟩, fun h => by have := hel1 h; omega, hel0⟩
          have hmea : t2.size < t.size := by omega
          clear hdr hcase hck hL1 hL2 hc1' hc2' hgo hd58 hz1 hts1 hts2 hT hTk
          go_wp2
          go_roundw
          case rel => exact ⟨t2, k + h + 1, i + 2, e, ell, rfl, by first | rfl | go_num, rfl, HV2, Lib.hid ((HF.out.setCell (p := ⟨w.heap.size + 1, i, none⟩) (by simp) _).setCell (p := ⟨w.heap.size + 1, i + 1, none⟩) (by simp) _), Lib.hid ((HR.out.far (by simp) _).far (by simp) _), Lib.hid ((HA.out.set_ i _ (by omega) (by omega)).set_ (i + 1) _ (by omega) (by omega))⟩
          case measure => exact hmea
        · -- the ellipsis at the end
          obtain ⟨hk, hck, _⟩ := get_of hdr
          have hltI : (h : Int) < (t.size : Int) := by omega
          have h46 : ((t[h].toNat : Int) == 46) = false := by rw [hck]; rfl
          obtain ⟨t1, ht1⟩ : ∃ t1, t.extract h t.size = t1 := ⟨_, rfl⟩
          have hts1 := cut_size ht1 (by omega)
          have hL1 := cut_L ht1
          rw [hdr] at hL1
          have hz1 : t1.size = (L t1).length := (L_length t1).symm
          rw [hL1] at hz1
          simp only [List.length_cons] at hz1
          have i1 : 0 < t1.size := by omega
          have hz1i : ((t1.size : Int) == 0) = false := by rw [beq_eq_false_iff_ne]; omega
          have hz1j : ((t1.size : Int) == 1) = false := by rw [beq_eq_false_iff_ne]; omega
          have h1le : (1 : Int) ≤ (t1.size : Int) := by omega
          obtain ⟨_, hc1', _⟩ := get_of (t := t1) (k := 0) (by rw [List.drop_zero]; exact hL1)
          have hc1i : ((t1[0].toNat : Int) != 58) = false := by rw [hc1']; rfl
          obtain ⟨t2, ht2⟩ : ∃ t2, t1.extract 1 t1.size = t2 := ⟨_, rfl⟩
          have hts2 := cut_size ht2 (by omega)
          have hL2 := cut_L ht2
          rw [hL1, List.drop_succ_cons, List.drop_zero] at hL2
          have i2 : 0 < t2.size := by omega
          obtain ⟨_, hc2', _⟩ := get_of (t := t2) (k := 0) (by rw [List.drop_zero]; exact hL2)
          have hc2i : ((t2[0].toNat : Int) == 58) = true := by rw [hc2']; rfl
          obtain ⟨t3, ht3⟩ : ∃ t3, t2.extract 1 t2.size = t3 := ⟨_, rfl⟩
          have hts3 := cut_size ht3 (by omega)
          have h2le : (1 : Int) ≤ (t2.size : Int) := by omega
          have hz3 : t3.size = 0 := by simp only [List.length_nil] at hz1; omega
          have hz3i : ((t3.size : Int) == 0) = true := by rw [hz3]; rfl
          have hell := hel0 he
          subst hell
          clear hdr hcase hck hL1 hL2 hc1' hc2' hel1 hel0 hz1 hts1 hts2 hts3 hT hTk
          go_wp2
          go_meet
          refine ⟨_, i + 2, ((i + 2 : Nat) : Int), rfl, by first | rfl | go_num, by first | rfl | go_num, by first | exact hz3 | rfl, by omega, by left; omega, ?_, ?_, ?_⟩
          · exact Lib.hid ((HF.out.setCell (p := ⟨w.heap.size + 1, i, none⟩) (by simp) _).setCell (p := ⟨w.heap.size + 1, i + 1, none⟩) (by simp) _)
          · exact Lib.hid ((HR.out.far (by simp) _).far (by simp) _)
          · exact Lib.hid ((HA.out.set_ i _ (by omega) (by omega)).set_ (i + 1) _ (by omega) (by omega))
        · -- the ellipsis, and more
          obtain ⟨hk, hck, _⟩ := get_of hdr
          have hltI : (h : Int) < (t.size : Int) := by omega
          have h46 : ((t[h].toNat : Int) == 46) = false := by rw [hck]; rfl
          obtain ⟨t1, ht1⟩ : ∃ t1, t.extract h t.size = t1 := ⟨_, rfl⟩
          have hts1 := cut_size ht1 (by omega)
          have hL1 := cut_L ht1
          rw [hdr] at hL1
          have hz1 : t1.size = (L t1).length := (L_length t1).symm
          rw [hL1] at hz1
          simp only [List.length_cons] at hz1
          have i1 : 0 < t1.size := by omega
          have hz1i : ((t1.size : Int) == 0) = false := by rw [beq_eq_false_iff_ne]; omega
          have hz1j : ((t1.size : Int) == 1) = false := by rw [beq_eq_false_iff_ne]; omega
          have h1le : (1 : Int) ≤ (t1.size : Int) := by omega
          obtain ⟨_, hc1', _⟩ := get_of (t := t1) (k := 0) (by rw [List.drop_zero]; exact hL1)
          have hc1i : ((t1[0].toNat : Int) != 58) = false := by rw [hc1']; rfl
          obtain ⟨t2, ht2⟩ : ∃ t2, t1.extract 1 t1.size = t2 := ⟨_, rfl⟩
          have hts2 := cut_size ht2 (by omega)
          have hL2 := cut_L ht2
          rw [hL1, List.drop_succ_cons, List.drop_zero] at hL2
          have i2 : 0 < t2.size := by omega
          obtain ⟨_, hc2', _⟩ := get_of (t := t2) (k := 0) (by rw [List.drop_zero]; exact hL2)
          have hc2i : ((t2[0].toNat : Int) == 58) = true := by rw [hc2']; rfl
          obtain ⟨t3, ht3⟩ : ∃ t3, t2.extract 1 t2.size = t3 := ⟨_, rfl⟩
          have hts3 := cut_size ht3 (by omega)
          have h2le : (1 : Int) ≤ (t2.size : Int) := by omega
          have hL3 := cut_L ht3
          rw [hL2, List.drop_succ_cons, List.drop_zero] at hL3
          have hz3i : ((t3.size : Int) == 0) = false := by rw [beq_eq_false_iff_ne]; omega
          have hell := hel0 he
          subst hell
          have HV2 : Hid (V6At s t3 (k + h + 1 + 1) (i + 2) true ((i + 2 : Nat) : Int)) := Lib.hid ⟨cut_more (cut_more (cut_more hT ht1) ht2) ht3, by omega, NU.v6go_lt hgo, by omega, ⟨d, r, hL3⟩, ⟨m, by rw [hL3]; exact hgo⟩, fun _ => by omega, fun h => by cases h⟩
          have hmea : t3.size < t.size := by omega
          clear hdr hcase hck hL1 hL2 hL3 hc1' hc2' hgo hel1 hel0 hz1 hts1 hts2 hts3 hT hTk
          go_wp2
          go_roundw
          case rel => exact ⟨t3, k + h + 1 + 1, i + 2, true, ((i + 2 : Nat) : Int), rfl, by first | rfl | go_num, by first | rfl | go_num, HV2, Lib.hid ((HF.out.setCell (p := ⟨w.heap.size + 1, i, none⟩) (by simp) _).setCell (p := ⟨w.heap.size + 1, i + 1, none⟩) (by simp) _), Lib.hid ((HR.out.far (by simp) _).far (by simp) _), Lib.hid ((HA.out.set_ i _ (by omega) (by omega)).set_ (i + 1) _ (by omega) (by omega))⟩
          case measure => exact hmea
  case rest =>
  as_aux_lemma =>
  obtain ⟨x, i, ell, rfl, rfl, rfl, hx, hi, hie, HF, HR, HA⟩ := hcut
  have hx0 : ((x.size : Int) != 0) = false := by rw [hx]; rfl
  clear hx
  have hiI : (i : Int) ≤ 16 := by omega
  go_upto_if 242 with fail
  go_cut [15] (fun _ wx => Hid (Fr w wx) ∧ Hid (Blk wx w.heap.size 121 #[.int .u64 0, .int .u64 0, .pointer none]) ∧ Hid (B16 wx (w.heap.size + 1)))
  case first =>
    as_aux_lemma =>
      rcases hie with ⟨h1, h2, h3⟩ | ⟨h1, h2⟩
      · have h1' : (i : Int) < 16 := by omega
        obtain ⟨el, rfl⟩ := Int.eq_ofNat_of_zero_le h2
        obtain ⟨m, hm⟩ : ∃ m, i + m = 16 := ⟨16 - i, by omega⟩
        have hm' : 16 - (i : Int) = (m : Int) := by omega
        have hsl := slice16 (w.heap.size + 1) el m ((el : Int) + (m : Int)) rfl (by omega) (by omega)
        have hclr : ∀ W ty, B16 W (w.heap.size + 1) → (Builtin.clear_ #[70] ty #[.slice (some ⟨w.heap.size + 1, el, none⟩) m (16 - el)]).run Tryz.prog W = .ok (.tuple #[]) (W.setCells (w.heap.size + 1) el (List.replicate m (.int .u8 0))) := fun W ty hW =>
          Lib.run_clear_slice W 70 5 ty (.int .u8 0) Tryz.underlying70 (fun W => by go_simp) rfl rfl (w.heap.size + 1) el m (16 - el) (by omega) (fun j hj => by obtain ⟨z, hz, _⟩ := hW.cell (el + j) (by omega); rw [hz]; rfl) (fun j hj => hW.frozen _)
        replace hclr := Lib.hid hclr
        clear hm
        go_wp2
        go_loopw [15] (fun s15 wx => ∃ j : Int, s15 = .int .i64 j ∧ (el : Int) - 1 ≤ j ∧ j ≤ (i : Int) - 1 ∧ Hid (Fr w wx) ∧ Hid (Blk wx w.heap.size 121 #[.int .u64 0, .int .u64 0, .pointer none]) ∧ Hid (B16 wx (w.heap.size + 1))) (fun s15 _ => (intOf s15 + 1).toNat)
        case atStart => exact ⟨(i : Int) - 1, by first | rfl | go_num, by omega, by omega, HF, HR, HA⟩
        case round =>
          obtain ⟨j, rfl, hj1, hj2, HF, HR, HA⟩ := hrel
          by_cases hlt : (el : Int) ≤ j
          · obtain ⟨jn, rfl⟩ := Int.eq_ofNat_of_zero_le (show 0 ≤ j by omega)
            have hjm : (jn : Int) + (m : Int) < 16 := by omega
            have hj16 : (jn : Int) < 16 := by omega
            obtain ⟨z, hz, hzb1, hzb2⟩ := HA.out.cell jn (by omega)
            obtain ⟨z2, hz2, _⟩ := HA.out.cell (jn + m) (by omega)
            have fz2 := HA.out.frozen (jn + m)
            go_wp2
            go_roundw
            case rel => exact ⟨(jn : Int) - 1, by first | rfl | go_num, by omega, by omega, Lib.hid (HF.out.setCell (p := ⟨w.heap.size + 1, jn + m, none⟩) (by simp) _), Lib.hid (HR.out.far (by simp) _), Lib.hid (HA.out.set_ (jn + m) _ (by omega) (by omega))⟩
            case measure => first | (simp [intOf]; done) | (simp [intOf]; omega)
          · have hlt' : j < (el : Int) := by omega
            have hcl := hclr.out wr
            have HG := gb_setCells m el wr (gb_refl wr (some (w.heap.size + 1)))
            have HF' := Lib.hid (fr_grown HF.out HG (by omega))
            have HR' := Lib.hid (HR.out.grown HG (by omega))
            have HA' := Lib.hid (B16.setCells m el wr HA.out)
            have hcl := fun ty => hcl ty HA.out
            clear HG hclr
            go_wp2
            go_meet
            exact ⟨HF', HR', HA'⟩
      · subst h1 h2
        go_wp2
        go_meet
        exact ⟨HF, HR, HA⟩
  case rest =>
  as_aux_lemma =>
  obtain ⟨HF, HR, HA⟩ := hcut
  obtain ⟨z, hbz, hzb⟩ := HA.out.opened
  have CA := Lib.hid (AddrFrom16_any (z 0) (z 1) (z 2) (z 3) (z 4) (z 5) (z 6) (z 7) (z 8) (z 9) (z 10) (z 11) (z 12) (z 13) (z 14) (z 15) a6 wc (cell_keep HF.out h6.out) (hzb 0 (by omega)) (hzb 1 (by omega)) (hzb 2 (by omega)) (hzb 3 (by omega)) (hzb 4 (by omega)) (hzb 5 (by omega)) (hzb 6 (by omega)) (hzb 7 (by omega)) (hzb 8 (by omega)) (hzb 9 (by omega)) (hzb 10 (by omega)) (hzb 11 (by omega)) (hzb 12 (by omega)) (hzb 13 (by omega)) (hzb 14 (by omega)) (hzb 15 (by omega)))
  replace hbz := Lib.hid hbz
  go_wp2_with (first
    | (refine wpList_load_16 rfl _ rfl _ rfl _ _ hbz rfl ?_)
    | (go_at_call 101; (with_reducible refine CA.out.mono ?_); rintro e w1 ⟨⟨hi, lo, rfl⟩, hf1⟩; have F1 := Lib.hid (HF.out.trans hf1); have R1 := Lib.hid (HR.out.below hf1 HR.out.lt))
    | (go_at_call 100; (with_reducible refine (CZ.out _ _ _ F1.out).mono ?_); rintro e w2 ⟨rfl, hf2⟩; have F2 := Lib.hid (F1.out.trans hf2); have R2 := Lib.hid (R1.out.below hf2 R1.out.lt))
    | (refine wpList_store_ip rfl _ _ rfl _ _ rfl rfl _ _ R2 rfl rfl (ip_one _ _ _) ?_)
    | fail)
  (try simp only [Exit.inBlock, Exit.then])
  refine bodyPost_ret (ret_ip2 rfl _ _ _ rfl _ _ (R2.out.row _) rfl) rfl ?_
  exact ⟨⟨hi, lo, rfl⟩, F2.out.setRow (Nat.le_refl _) _⟩
end Go.Proofs.YtibcegbacnjmfaaGreatDoor
