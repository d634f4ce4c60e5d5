import Derived.Test.YtlholchmgheemaaDoorW63
import Derived.Test.YtlholchmgheemaaDoorW64
import Derived.Test.YtlholchmgheemaaDoorP17
import Derived.Test.YtlholchmgheemaaDoorBlk
namespace Go.Proofs.YtlholchmgheemaaDoor
set_option linter.unusedVariables false
set_option linter.unusedSimpArgs false
open Go.RowKit Go.Maps

def bl (l : IL) : NU.PL := l.map (fun p => (L p.1, p.2.map L))
theorem bl_len (l : IL) : (bl l).length = l.length := by simp [bl]
theorem bl_at (l : IL) (k : Nat) (h : k < l.length) (h' : k < (bl l).length) : (bl l)[k] = (L l[k].1, l[k].2.map L) := by simp [bl]
def PPost (w : World) (M : NU.QM) (e : Ending) (w' : World) : Prop := ∃ v' S, e = .returned v' ∧ Fr w w' ∧ Pairs w.heap.size w' v' S M ∧ QLen M 2000 ∧ S.length ≤ 2000
theorem Pairs.offNew {B : Nat} {w : World} {v : Value} {S : SL} {M : NU.QM} (h : Pairs B w v S M) (b : Nat) (hb : w.heap.size ≤ b) : Off b v S := by
  refine ⟨?_, fun k u hu => ?_⟩
  · rcases h.form with ⟨hv, _⟩ | ⟨g, cap, hv, _, hg⟩
    · rw [hv]; simp [Value.ownBlock]
    · rw [hv]; simp [Value.ownBlock]; omega
  · obtain ⟨g, hg, _, hl⟩ := h.svs.blk hu
    rw [hg]; simp; omega
theorem seq_cases (a b : ByteArray) : (a.toList == b.toList) = (L a == L b) := by rw [Lib.toList_data, Lib.toList_data]
set_option maxRecDepth 100000 in
set_option maxHeartbeats 16000000 in
theorem specPairs_any (w : World) (v : Value) (l : IL) (h : InP w v l) (hfit : fitP l = true) :
    Calls Tryd.prog 16 #[v] w fun e w' => PPost w (NU.specPairs (bl l)) e w' := by
  obtain ⟨a, cap, rfl, hcap, hcm, h⟩ := h
  replace h := Lib.hid h
  have hfl : l.length ≤ 2147483647 := by unfold fitP at hfit; simp at hfit; exact hfit.1
  have HFIT : Hid (∀ (i : Nat) (h : i < l.length), l[i].1.size ≤ 2147483647 ∧ l[i].2.length ≤ 2147483647) := by
    intro i hi
    unfold fitP at hfit
    simp only [Bool.and_eq_true, List.all_eq_true] at hfit
    have := hfit.2 _ (List.getElem_mem hi)
    unfold fitS at this
    simp at this
    exact ⟨this.1, this.2.1⟩
  have HNIL : Hid ((2000 < l.length ∨ ∃ k, 2000 < NU.total ((bl l).take k)) → Pairs w.heap.size w (.slice none 0 0) [] (NU.specPairs (bl l)) ∧ QLen (NU.specPairs (bl l)) 2000) := by
    show _ → _
    intro hq
    have : NU.specPairs (bl l) = [] := by
      unfold NU.specPairs
      rw [if_neg]
      rintro ⟨h1, h2⟩
      rw [bl_len] at h1
      rcases hq with hq | ⟨k, hq⟩
      · omega
      · have := NU.total_le (bl l) k; omega
    rw [this]
    exact ⟨Pairs.nil _ _, fun _ _ h => by cases h⟩
  obtain ⟨N, hN⟩ : ∃ N, N = l.length := ⟨_, rfl⟩
  have HN := Lib.hid hN
  rw [← hN] at hfl hcap ⊢
  clear hN hfit
  go_enter Tryd.func16, Tryd.ntmps16
  go_wp2
  go_loopw [3, 16] (fun n i wr => ∃ (k c : Nat), k ≤ N ∧ i = .int .i64 (k : Int) ∧ n = .int .i64 (c : Int) ∧ c ≤ 2000 ∧ (k = 0 ∨ N ≤ 2000) ∧ Hid (Fr w wr) ∧ Hid (c = NU.total ((bl l).take k))) (fun _ i _ => N - (intOf i).toNat)
  case atStart => exact ⟨0, 0, by omega, rfl, rfl, by omega, .inl rfl, Fr.refl _, by show _ = _; simp [NU.total]⟩
  case round =>
    obtain ⟨k, c, hk, rfl, rfl, hc2, hkn, HF, HC⟩ := hrel
    by_cases hkN : k < N
    case pos =>
      have i1 : k < l.length := by rw [← HN.out]; exact hkN
      obtain ⟨g, o, rfl, hc⟩ : ∃ g o, a = some ⟨g, o, none⟩ ∧ ∀ (i : Nat) (h : i < l.length), w.cell? ⟨g, o + i * 2, none⟩ = some (.string l[i].1) ∧ ∃ u, w.cell? ⟨g, o + i * 2 + 1, none⟩ = some u ∧ InS w u l[i].2 := by
        rcases h.out with h | h
        · rw [h] at i1; simp at i1
        · exact h
      obtain ⟨x1, u, y1, bu, eu, rfl, s2⟩ := hc k i1
      obtain ⟨K, hK⟩ : ∃ K, K = l[k].1 := ⟨_, rfl⟩
      obtain ⟨nu, hnu⟩ : ∃ n, n = l[k].2.length := ⟨_, rfl⟩
      have hnb : nu ≤ 2147483647 := by rw [hnu]; exact (HFIT.out k i1).2
      rw [← hK] at x1
      rw [← hnu] at y1
      have HT : Hid (NU.total ((bl l).take (k + 1)) = c + nu) := by
        show _ = _
        rw [NU.total_take _ _ (by rw [bl_len]; exact i1), ← HC.out, bl_at l k i1, hnu]; simp
      have d1 : wr.cell? ⟨g, o + k * 2, none⟩ = some (.string K) := cell_fr HF.out x1
      have d2 : wr.cell? ⟨g, o + k * 2 + 1, none⟩ = some (.slice bu nu eu) := cell_fr HF.out y1
      clear hc x1 y1 hK hnu s2
      by_cases hA : 2000 < c + nu
      case pos =>
        have hA' : 2000 < (c : Int) + (nu : Int) := by omega
        have HR := Lib.hid (HNIL.out (.inr ⟨k + 1, by rw [HT.out]; exact hA⟩))
        go_wp2
        go_ret
        exact ⟨_, [], rfl, HF.out.alloc _, HR.out.1.fr (HF.out.alloc _), HR.out.2, by simp⟩
      case neg =>
        have hA' : ¬ (2000 < (c : Int) + (nu : Int)) := by omega
        have hA2 : (c : Int) + (nu : Int) ≤ 2000 := by omega
        by_cases hB : 2000 < N
        case pos =>
          have hB' : 2000 < (N : Int) := by omega
          have HR := Lib.hid (HNIL.out (.inl (by rw [← HN.out]; exact hB)))
          go_wp2
          go_ret
          exact ⟨_, [], rfl, HF.out.alloc _, HR.out.1.fr (HF.out.alloc _), HR.out.2, by simp⟩
        case neg =>
          have hB' : ¬ (2000 < (N : Int)) := by omega
          go_wp2
          go_roundw
          case rel => exact ⟨k + 1, c + nu, by omega, by go_num, by go_num, by omega, .inr (by omega), HF.out.alloc _, HT.out.symm⟩
          case measure => simp [intOf]; omega
    case neg =>
      obtain rfl : k = N := by omega
      have hN2 : k ≤ 2000 := by omega
      have HTL : Hid (NU.total (bl l) = c) := by show _ = _; rw [HC.out, List.take_of_length_le (by rw [bl_len, ← HN.out]; omega)]
      have HGO : Hid (NU.specPairs (bl l) = NU.specGo (bl l) []) := by
        show _ = _; unfold NU.specPairs; rw [if_pos ⟨by rw [bl_len, ← HN.out]; exact hN2, by rw [HTL.out]; exact hc2⟩]
      have HT2 : Hid (NU.total (bl l) ≤ 2000) := by show _ ≤ _; rw [HTL.out]; exact hc2
      clear hkn HC HNIL hkN hk HTL hc2
      obtain ⟨N, rfl⟩ : ∃ N, N = k := ⟨_, rfl⟩
      go_wp2
      go_loopw [6, 35] (fun out i wr => ∃ (k c : Nat) (S : SL) (M : NU.QM), k ≤ N ∧ i = .int .i64 (k : Int) ∧ S.length ≤ c ∧ c ≤ 2000 ∧ Hid (c = NU.total ((bl l).take k)) ∧ Hid (Fr w wr) ∧ Hid (Pairs w.heap.size wr out S M) ∧ Hid (QLen M c) ∧ Hid (NU.specPairs (bl l) = NU.specGo ((bl l).drop k) M)) (fun _ i _ => N - (intOf i).toNat)
      case atStart => exact ⟨0, 0, [], [], by omega, rfl, by simp, by omega, by show _ = _; simp [NU.total], HF, Pairs.nil _ _, (fun _ _ h => by cases h), by show _ = _; rw [List.drop_zero]; exact HGO.out⟩
      case round =>
        rename World => wa
        clear HF HGO
        obtain ⟨k, c, S, M, hk, rfl, hSc, hc2, HC, HF, HP, HL, HS⟩ := hrel
        by_cases hkN : k < N
        case neg =>
          have hkN' : N ≤ k := by omega
          have HS2 : Hid (NU.specPairs (bl l) = M) := by show _ = _; rw [HS.out, List.drop_eq_nil_of_le (by rw [bl_len, ← HN.out]; exact hkN')]; rfl
          clear HS hkN
          go_wp2
          go_ret
          rw [HS2.out]
          exact ⟨_, S, rfl, HF.out, HP.out, HL.out.mono hc2, by omega⟩
        case pos =>
          have i1 : k < l.length := by rw [← HN.out]; exact hkN
          obtain ⟨g, o, rfl, hc⟩ : ∃ g o, a = some ⟨g, o, none⟩ ∧ ∀ (i : Nat) (h : i < l.length), w.cell? ⟨g, o + i * 2, none⟩ = some (.string l[i].1) ∧ ∃ u, w.cell? ⟨g, o + i * 2 + 1, none⟩ = some u ∧ InS w u l[i].2 := by
            rcases h.out with h | h
            · rw [h] at i1; simp at i1
            · exact h
          replace hc := Lib.hid hc
          obtain ⟨x1, u, y1, bu, eu, rfl, s2⟩ := hc.out k i1
          obtain ⟨K, hK⟩ : ∃ K, K = l[k].1 := ⟨_, rfl⟩
          obtain ⟨ss, hss⟩ : ∃ ss, ss = l[k].2 := ⟨_, rfl⟩
          obtain ⟨nu, hnu⟩ : ∃ n, n = ss.length := ⟨_, rfl⟩
          rw [← hK] at x1
          rw [← hss, ← hnu] at y1
          rw [← hss] at s2
          have HNU := Lib.hid hnu
          have hkz : K.size ≤ 4398046511104 := by have := (HFIT.out k i1).1; rw [← hK] at this; omega
          have HPK : Hid ((bl l)[k]'(by rw [bl_len]; exact i1) = (L K, ss.map L)) := by show _ = _; rw [bl_at l k i1, hK, hss]
          have HT : Hid (NU.total ((bl l).take (k + 1)) = c + nu) := by
            show _ = _
            rw [NU.total_take _ _ (by rw [bl_len]; exact i1), ← HC.out, HPK.out, hnu]; simp
          have hcn : c + nu ≤ 2000 := by rw [← HT.out]; exact Nat.le_trans (NU.total_le _ _) HT2.out
          have d1 : wa.cell? ⟨g, o + k * 2, none⟩ = some (.string K) := cell_fr HF.out x1
          have d2 : wa.cell? ⟨g, o + k * 2 + 1, none⟩ = some (.slice bu nu eu) := cell_fr HF.out y1
          replace s2 := Lib.hid s2
          have hnu0 : decide (0 < nu) = !(ss.map L).isEmpty := by
            rw [hnu]; cases ss <;> simp
          have HSTEP : Hid (NU.specPairs (bl l) = NU.specGo ((bl l).drop (k + 1)) (NU.specStep (L K, ss.map L) ((bl l).drop (k + 1)) M)) := by
            show _ = _; rw [HS.out, NU.specGo_drop _ _ (by rw [bl_len]; exact i1), HPK.out]
          clear x1 y1 hK hss hnu HS HPK
          obtain ⟨P, hPdef⟩ : ∃ P, P = (L K, ss.map L) := ⟨_, rfl⟩
          obtain ⟨r, hr⟩ : ∃ r, r = (bl l).drop (k + 1) := ⟨_, rfl⟩
          have HRL : Hid (r.length = N - (k + 1)) := by show _ = _; rw [hr, List.length_drop, bl_len, ← HN.out]
          have HRA : Hid (∀ (x : Nat) (h : x < r.length) (h' : k + 1 + x < l.length), r[x] = (L l[k + 1 + x].1, l[k + 1 + x].2.map L)) := by
            show ∀ x h h', _
            intro x h h'
            have e : r[x]? = (bl l)[k + 1 + x]? := by rw [hr, List.getElem?_drop]
            rw [List.getElem?_eq_getElem h, List.getElem?_eq_getElem (by rw [bl_len]; exact h'), Option.some.injEq] at e
            rw [e, bl_at l _ h']
          have HPD := Lib.hid hPdef
          have HRD := Lib.hid hr
          have HE0 : Hid (decide (0 < nu) = NU.lastUp P r 0) := by show _ = _; rw [NU.lastUp_zero, hPdef]; exact hnu0
          rw [← hPdef, ← hr] at HSTEP
          clear hPdef hr hnu0
          by_cases hcc : cap = k + 1
          all_goals
            try subst hcc
            go_wp2
            go_loopw [9, 49] (fun la j wr2 => ∃ (x : Nat) (lb : Bool), x ≤ N - (k + 1) ∧ j = .int .i64 (x : Int) ∧ la = .bool lb ∧ Hid (lb = NU.lastUp P r x) ∧ Hid (Fr wa wr2) ∧ Hid (Blk wr2 wa.heap.size 40 #[.string K, .slice bu nu eu])) (fun _ j _ => N - (k + 1) - (intOf j).toNat)
            case atStart => exact ⟨0, decide (0 < nu), by omega, rfl, rfl, HE0.out, (Fr.refl _).alloc _, Blk.new _ _ _⟩
            case round =>
              rename World => wb
              obtain ⟨x, lb, hx, rfl, rfl, HLB, HF2, HB2⟩ := hrel
              by_cases hxR : x < N - (k + 1)
              case pos =>
                first
                  | (exfalso; omega)
                  | (have i2 : k + 1 + x < l.length := by have := HN.out; omega
                     have i3 : x < r.length := by rw [HRL.out]; exact hxR
                     obtain ⟨x1, u, y1, bq, eq, rfl, t2⟩ := hc.out (k + 1 + x) i2
                     obtain ⟨Kq, hKq⟩ : ∃ K, K = l[k + 1 + x].1 := ⟨_, rfl⟩
                     obtain ⟨nq, hnq⟩ : ∃ n, n = l[k + 1 + x].2.length := ⟨_, rfl⟩
                     rw [← hKq] at x1
                     rw [← hnq] at y1
                     have HUP : Hid (NU.lastUp P r (x + 1) = (lb && (L Kq != L K || decide (nq = 0)))) := by
                       show _ = _
                       rw [NU.lastUp_succ _ _ _ i3, ← HLB.out, HRA.out x i3 i2, HPD.out, ← hKq]
                       congr 1; congr 1
                       rw [hnq]; cases l[k + 1 + x].2 <;> simp
                     have hnqb : nq ≤ 2147483647 := by rw [hnq]; exact (HFIT.out _ i2).2
                     have e1 : wb.cell? ⟨g, o + (k + 1) * 2 + x * 2, none⟩ = some (.string Kq) := by
                       rw [show o + (k + 1) * 2 + x * 2 = o + (k + 1 + x) * 2 by omega]; exact cell_fr (HF.out.trans HF2.out) x1
                     have e2 : wb.cell? ⟨g, o + (k + 1) * 2 + x * 2 + 1, none⟩ = some (.slice bq nq eq) := by
                       rw [show o + (k + 1) * 2 + x * 2 + 1 = o + (k + 1 + x) * 2 + 1 by omega]; exact cell_fr (HF.out.trans HF2.out) y1
                     have e3 : ∀ ob, (wb.alloc ob).cell? ⟨wa.heap.size, 0, none⟩ = some (.string K) := fun ob => (HB2.out.alloc ob).cell 0
                     clear x1 y1 hKq hnq t2
                     cases lb
                     case false =>
                       go_wp2
                       go_roundw
                       case rel => exact ⟨x + 1, false, by omega, by go_num, rfl, HUP.out.symm, HF2.out.alloc _, HB2.out.alloc _⟩
                       case measure => first | (simp [intOf]; done) | (simp [intOf]; omega)
                     case true =>
                       by_cases hkey : (Kq.toList == K.toList) = true
                       case neg =>
                         have hkey : (Kq.toList == K.toList) = false := by simpa using hkey
                         have HU2 : Hid (true = NU.lastUp P r (x + 1)) := by
                           show _ = _; rw [HUP.out]; rw [seq_cases] at hkey; simp [bne, hkey]
                         go_wp2
                         go_roundw
                         case rel => exact ⟨x + 1, true, by omega, by go_num, rfl, HU2, HF2.out.alloc _, HB2.out.alloc _⟩
                         case measure => first | (simp [intOf]; done) | (simp [intOf]; omega)
                       case pos =>
                         have HU2 : Hid (decide (nq = 0) = NU.lastUp P r (x + 1)) := by
                           show _ = _; rw [HUP.out]; rw [seq_cases] at hkey; simp [bne, hkey]
                         by_cases hq0 : nq = 0
                         case pos =>
                           subst hq0
                           go_wp2
                           go_roundw
                           case rel => exact ⟨x + 1, true, by omega, by go_num, rfl, HU2, HF2.out.alloc _, HB2.out.alloc _⟩
                           case measure => first | (simp [intOf]; done) | (simp [intOf]; omega)
                         case neg =>
                           have hq1 : ((nq : Int) == 0) = false := by simpa using fun e => hq0 (by omega)
                           have HU3 : Hid (false = NU.lastUp P r (x + 1)) := by show _ = _; rw [← HU2.out, decide_eq_false hq0]
                           go_wp2
                           go_roundw
                           case rel => exact ⟨x + 1, false, by omega, by go_num, rfl, HU3, HF2.out.alloc _, HB2.out.alloc _⟩
                           case measure => first | (simp [intOf]; done) | (simp [intOf]; omega))
              case neg =>
                have hxR' : N - (k + 1) ≤ x := by omega
                have HSTEP2 : Hid (NU.specPairs (bl l) = NU.specGo r (if lb = true then NU.putAll (L K) (ss.map L) M else M)) := by
                  show _ = _; rw [HSTEP.out, NU.specStep, ← NU.lastUp_all P r x (by rw [HRL.out]; exact hxR'), ← HLB.out, HPD.out]
                clear HLB HSTEP HE0
                have f1 : wb.cell? ⟨wa.heap.size, 1, none⟩ = some (.slice bu nu eu) := HB2.out.cell 1
                have HOFF := Lib.hid ((HP.out.offNew wa.heap.size (Nat.le_refl _)))
                have HP2 := Lib.hid (HP.out.fr HF2.out)
                have HFA := Lib.hid (HF.out.trans HF2.out)
                go_wp2
                go_loopw [6, 71] (fun out j wr3 => ∃ (y : Nat) (S3 : SL) (M3 : NU.QM), y ≤ nu ∧ j = .int .i64 (y : Int) ∧ S3.length ≤ c + y ∧ Hid (Fr w wr3) ∧ Hid (Pairs w.heap.size wr3 out S3 M3) ∧ Hid (QLen M3 (c + y)) ∧ Hid (Blk wr3 wa.heap.size 40 #[.string K, .slice bu nu eu]) ∧ Hid (Off wa.heap.size out S3) ∧ Hid (M3 = if lb = true then NU.putAll (L K) ((ss.map L).take y) M else M)) (fun _ j _ => nu - (intOf j).toNat)
                case atStart => exact ⟨0, S, M, by omega, rfl, by omega, HFA, HP2, HL, HB2, HOFF, by show _ = _; simp [NU.putAll]⟩
                case round =>
                  clear HFA HP2 HOFF f1 HB2 HF2
                  rename World => wd
                  obtain ⟨y, S3, M3, hy, rfl, hS3, HF3, HP3, HL3, HB3, HO3, HM3⟩ := hrel
                  by_cases hyn : y < nu
                  case neg =>
                    have hyn' : nu ≤ y := by omega
                    obtain rfl : y = nu := by omega
                    have HS3 : Hid (NU.specPairs (bl l) = NU.specGo ((bl l).drop (k + 1)) M3) := by
                      show _ = _
                      rw [HSTEP2.out, HM3.out, List.take_of_length_le (by rw [List.length_map, ← HNU.out]; omega), HRD.out]
                    clear hyn
                    go_wp2
                    go_roundw
                    case rel => exact ⟨k + 1, c + y, S3, M3, by omega, by go_num, hS3, hcn, HT.out.symm, HF3, HP3, HL3, HS3⟩
                    case measure => first | (simp [intOf]; done) | (simp [intOf]; omega)
                  case pos =>
                    have i4 : y < ss.length := by rw [← HNU.out]; exact hyn
                    obtain ⟨gs, os, rfl, hcs⟩ := s2.out.resolve_left (by intro e; rw [e] at i4; simp at i4)
                    obtain ⟨xs, hxs⟩ : ∃ xs, xs = ss[y] := ⟨_, rfl⟩
                    have c0 : wd.cell? ⟨gs, os + y, none⟩ = some (.string xs) := by rw [hxs]; exact cell_fr HF3.out (hcs y i4)
                    have HXS : Hid ((ss.map L).take (y + 1) = (ss.map L).take y ++ [L xs]) := by
                      show _ = _; rw [List.take_succ_eq_append_getElem (by simpa using i4), hxs]; simp
                    have b0 : wd.cell? ⟨wa.heap.size, 0, none⟩ = some (.string K) := HB3.out.cell 0
                    clear hcs hxs
                    cases lb
                    case false =>
                      have HM4 : Hid (M3 = M) := HM3.out
                      go_wp2
                      go_roundw
                      case rel => exact ⟨y + 1, S3, M3, by omega, by go_num, by omega, HF3, HP3, HL3.out.mono (by omega), HB3, HO3, HM4.out⟩
                      case measure => first | (simp [intOf]; done) | (simp [intOf]; omega)
                    case true =>
                      have hwl : wa.heap.size < wd.heap.size := HB3.out.lt
                      have HM4 : Hid (NU.qput (L K) (L xs) M3 = NU.putAll (L K) ((ss.map L).take (y + 1)) M) := by
                        show _ = _
                        have := HM3.out
                        rw [if_pos rfl] at this
                        rw [HXS.out, this]; unfold NU.putAll; rw [List.foldl_append]; rfl
                      have CPUT := Lib.hid (fun v hB hP => put_off w.heap.size v S3 M3 K xs hkz wd hB (by omega) (Lib.hid (HL3.out.mono (by omega))) hP)
                      go_wp2_with (go_at_call 21; (with_reducible refine (CPUT.out _ HF3.out.size HP3).mono ?_); rintro e1 w8 ⟨v8, S8, rfl, hb8, hp8, ho8⟩; replace hb8 := Lib.hid hb8; replace hp8 := Lib.hid hp8; replace ho8 := Lib.hid ho8)
                      go_roundw
                      case rel =>
                        have h8 := hp8.out.svs.len
                        have h9 := HP3.out.svs.len
                        have h10 := qput_len (L K) (L xs) M3
                        have h11 := ho8.out _ hwl HO3.out
                        exact ⟨y + 1, S8, _, by omega, by go_num, by omega, Below.trans HF3.out hb8.out, hp8.out, HL3.out.put HP3.out.svs.sm _ _, h11.2.trans HB3.out, h11.1, by first | exact HM4 | (show _ = _; rw [if_pos rfl]; exact HM4.out)⟩
                      case measure => first | (simp [intOf]; done) | (simp [intOf]; omega)
end Go.Proofs.YtlholchmgheemaaDoor
