import Derived.Test.YtlholchmgheemaaDoorW65
import Derived.Test.YtlholchmgheemaaDoorW69
import Derived.Test.YtlholchmgheemaaDoorP18
namespace Go.Proofs.YtlholchmgheemaaDoor
set_option linter.unusedVariables false
set_option linter.unusedSimpArgs false
open Go.RowKit Go.Maps

theorem small_of {M : NU.QM} (h : NU.SmallM M) : Small M := fun i hi => ⟨(h _ (List.getElem_mem hi)).1, fun j hj => (h _ (List.getElem_mem hi)).2 _ (List.getElem_mem hj)⟩
theorem small_fit (l : IL) (h : fitP l = true) : NU.SmallM (bl l) := by
  intro p hp
  unfold bl at hp
  obtain ⟨q, hq, rfl⟩ := List.mem_map.1 hp
  unfold fitP at h
  simp only [Bool.and_eq_true, List.all_eq_true] at h
  have h1 := h.2 q hq
  unfold fitS at h1
  simp only [Bool.and_eq_true, List.all_eq_true, decide_eq_true_eq] at h1
  refine ⟨by rw [L_length]; exact h1.1, fun x hx => ?_⟩
  obtain ⟨y, hy, rfl⟩ := List.mem_map.1 hx
  rw [L_length]; exact h1.2.2 y hy
set_option maxRecDepth 100000 in
set_option maxHeartbeats 16000000 in
theorem FnEncode_any (l : IL) (v : Value) (w : World) (hI : InP w v l) (ht : Tab w) :
    Calls Tryd.prog 7 #[v] w fun e w' => e = .returned (.bool true) ∧ Fr w w' := by
  have CZ := Lib.hid (zzFits2_any w v l hI)
  replace hI := Lib.hid hI
  replace ht := Lib.hid ht
  cases hfit : fitP l
  case false =>
    rw [hfit] at CZ
    go_enter Tryd.func7, Tryd.ntmps7
    go_wp2_with (go_at_call 14; (with_reducible refine CZ.out.mono ?_); rintro e w1 ⟨rfl, hf1⟩; replace hf1 := Lib.hid hf1)
    go_ret
    exact ⟨rfl, hf1.out⟩
  case true =>
    rw [hfit] at CZ
    obtain ⟨M, hM⟩ : ∃ M, M = NU.specPairs (bl l) := ⟨_, rfl⟩
    have hT : Hid (NU.total M ≤ 2000) := by show _ ≤ _; rw [hM]; exact NU.total_specPairs _
    have hS : Hid (Small M) := by show Small M; rw [hM]; exact small_of (NU.small_specPairs _ (small_fit l hfit))
    have CP := Lib.hid (fun W hW => specPairs_any W v l hW hfit)
    rw [← hM] at CP
    have CQ := Lib.hid queries_any
    clear hM hfit
    go_enter Tryd.func7, Tryd.ntmps7
    go_wp2_with (first
      | (go_at_call 14; (with_reducible refine CZ.out.mono ?_); rintro e w1 ⟨rfl, hf1⟩; replace hf1 := Lib.hid hf1)
      | (go_at_call 16; (with_reducible refine (CP.out _ (hI.out.fr hf1.out)).mono ?_); rintro e w2 ⟨v2, S, rfl, hf2, hP, hQ, hn⟩; replace hf2 := Lib.hid (hf1.out.trans hf2); replace hP := Lib.hid hP; obtain ⟨ao, cap, rfl, HA⟩ : ∃ ao cap, v2 = .slice ao S.length cap ∧ Hid ((ao = none ∧ S = [] ∧ cap = 0) ∨ ∃ g, ao = some ⟨g, 0, none⟩) := (by
          rcases hP.out.form with ⟨hv, hS⟩ | ⟨g, cap, hv, _⟩
          · exact ⟨none, 0, by rw [hv, hS]; rfl, .inl ⟨rfl, hS, rfl⟩⟩
          · exact ⟨_, cap, hv, .inr ⟨g, rfl⟩⟩)))
    obtain ⟨N, hN⟩ : ∃ N, N = S.length := ⟨_, rfl⟩
    have HN := Lib.hid hN
    have hN2 : N ≤ 2000 := by omega
    have HNM : Hid (M.length = N) := by show _ = _; rw [hN, hP.out.svs.len]
    rw [← hN]
    have CE := Lib.hid (fun W hPW hTb => implEncode_any w1.heap.size (.slice ao N cap) S M W hPW (by have := HN.out; omega) hT hS hTb)
    replace hQ := Lib.hid hQ
    clear hn hN
    go_loopw [3, 15] (fun want i wr => ∃ (k c : Nat) (q : ByteArray), k ≤ N ∧ i = .int .i64 (k : Int) ∧ want = .string q ∧ c ≤ 2000 ∧ Hid (c = NU.total (M.take k)) ∧ Hid (L q = encUp M k) ∧ q.size ≤ c * 12884901890 ∧ Hid (Fr w2 wr)) (fun _ i _ => N - (intOf i).toNat)
    case atStart => exact ⟨0, 0, ⟨#[]⟩, by omega, rfl, rfl, by omega, by show _ = _; simp [NU.total], rfl, Nat.zero_le _, Fr.refl _⟩
    case round =>
      rename World => wa
      obtain ⟨k, c, q, hk, rfl, rfl, hc2, HTc, HQ, hqz, HFa⟩ := hrel
      by_cases hkN : k < N
      case neg =>
        have hkN' : N ≤ k := by omega
        have he : q = mk (NU.encq M) := by rw [← mk_L q, HQ.out, encUp_all M k (by rw [HNM.out]; exact hkN')]
        subst he
        have HPa := Lib.hid (hP.out.fr HFa.out)
        have HFw := Lib.hid (hf2.out.trans HFa.out)
        have hPN : Hid (∀ W, Fr wa W → Pairs w1.heap.size W (.slice ao N cap) S M) := by
          show ∀ W, _ → _
          intro W hW
          have := HPa.out.fr hW
          rw [← HN.out] at this; exact this
        clear hkN hqz
        go_wp2_with (first
          | (go_at_call 9; (with_reducible refine (CQ.out _ (Lib.hid (ht.out.fr HFw.out))).mono ?_); rintro e w3 ⟨rfl, hf3⟩; replace hf3 := Lib.hid hf3)
          | (go_at_call 15; (with_reducible refine (CE.out _ (Lib.hid (hPN.out _ hf3.out)) (Lib.hid (ht.out.fr (HFw.out.trans hf3.out)))).mono ?_); rintro e w4 ⟨rfl, hf4⟩; replace hf4 := Lib.hid hf4))
        go_ret
        exact ⟨rfl, (HFw.out.trans hf3.out).trans hf4.out⟩
      case pos =>
        have hkS : k < S.length := by have := HN.out; omega
        have hkM : k < M.length := by rw [HNM.out]; exact hkN
        obtain ⟨g, rfl⟩ : ∃ g, ao = some ⟨g, 0, none⟩ := by
          rcases HA.out with ⟨_, h, _⟩ | h
          · rw [h] at hkS; simp at hkS
          · exact h
        have hown := hP.out.own
        obtain ⟨K, hK⟩ : ∃ K, K = mk M[k].1 := ⟨_, rfl⟩
        have hLK : L K = M[k].1 := by rw [hK, L_mk]
        obtain ⟨ls, hls⟩ : ∃ ls, ls = M[k].2 := ⟨_, rfl⟩
        obtain ⟨hrow, hl0⟩ := hP.out.svs.row_at k hkS hkM
        rw [← hls] at hrow hl0
        obtain ⟨gu, capu, hu, _, _, hcv⟩ := hrow.form hl0
        replace hcv := Lib.hid hcv
        have hKz : K.size ≤ 2147483647 := by rw [← L_length, hLK]; exact (hS.out k hkM).1
        have HVz : Hid (∀ (j : Nat) (h : j < ls.length), ls[j].length ≤ 2147483647) := by subst hls; exact (hS.out k hkM).2
        have HTk : Hid (NU.total (M.take (k + 1)) = c + ls.length) := by show _ = _; rw [NU.total_take _ _ hkM, ← HTc.out, hls]
        have hcl : c + ls.length ≤ 2000 := by rw [← HTk.out]; exact Nat.le_trans (NU.total_le _ _) hT.out
        have HUP : Hid (encUp M (k + 1) = NU.encv (encUp M k) (L K) ls) := by show _ = _; rw [encUp_succ M k hkM, hLK, hls]
        have c0 : wa.cell? ⟨g, k * 2, none⟩ = some (.string K) := by
          refine cell_fr HFa.out ?_
          have := ownsRow_cell hown (k * 2) _ (pCells_key S k hkS).1
          rw [hP.out.svs.key_at k hkS hkM, ← hK] at this; exact this
        have c1 : wa.cell? ⟨g, k * 2 + 1, none⟩ = some (.slice (some ⟨gu, 0, none⟩) ls.length capu) := by
          rw [← hu]; exact cell_fr HFa.out (ownsRow_cell hown (k * 2 + 1) _ (pCells_key S k hkS).2)
        obtain ⟨KE, hKE⟩ : ∃ KE, KE = mk (NU.esc 32 (L K)) := ⟨_, rfl⟩
        have HKE : Hid (L KE = NU.esc 32 (L K)) := by show _ = _; rw [hKE, L_mk]
        have hKEz : KE.size ≤ 6442450941 := by rw [← L_length, HKE.out]; exact esc_small 32 _ (by rw [L_length]; exact hKz)
        have CK := Lib.hid (implEscape_any K (by omega))
        rw [← hKE] at CK
        clear hown hK hLK hls hrow hu hKE
        go_wp2
        go_loopw [3, 22] (fun want j wr => ∃ (y : Nat) (q : ByteArray), y ≤ ls.length ∧ j = .int .i64 (y : Int) ∧ want = .string q ∧ Hid (L q = NU.encv (encUp M k) (L K) (ls.take y)) ∧ q.size ≤ (c + y) * 12884901890 ∧ Hid (Fr w2 wr) ∧ Hid (Blk wr wa.heap.size 40 #[.string K, .slice (some ⟨gu, 0, none⟩) ls.length capu])) (fun _ j _ => ls.length - (intOf j).toNat)
        case atStart => exact ⟨0, q, by omega, rfl, rfl, by show _ = _; rw [List.take_zero]; exact HQ.out, by omega, HFa.out.alloc _, Blk.new _ _ _⟩
        case round =>
          rename World => wb
          clear HQ hqz
          obtain ⟨y, q, hy, rfl, rfl, HQ, hqz, HFb, HBb⟩ := hrel
          by_cases hyl : y < ls.length
          case neg =>
            have hyl' : ls.length ≤ y := by omega
            have HQ2 : Hid (L q = encUp M (k + 1)) := by show _ = _; rw [HQ.out, List.take_of_length_le hyl', HUP.out]
            have hqz2 : q.size ≤ (c + ls.length) * 12884901890 := by rw [show ls.length = y by omega]; exact hqz
            clear hyl
            go_wp2
            go_roundw
            case rel => exact ⟨k + 1, c + ls.length, q, by omega, by go_num, rfl, hcl, HTk.out.symm, HQ2, hqz2, HFb⟩
            case measure => first | (simp [intOf]; done) | (simp [intOf]; omega)
          case pos =>
            obtain ⟨xs, hxs⟩ : ∃ xs, xs = mk ls[y] := ⟨_, rfl⟩
            have hxl : L xs = ls[y] := by rw [hxs, L_mk]
            have c2 : wb.cell? ⟨gu, y, none⟩ = some (.string xs) := by rw [hxs]; exact cell_fr HFb.out (hcv.out y hyl)
            have b0 : wb.cell? ⟨wa.heap.size, 0, none⟩ = some (.string K) := HBb.out.cell 0
            have hxz : xs.size ≤ 2147483647 := by rw [← L_length, hxl]; exact HVz.out y hyl
            obtain ⟨XE, hXE⟩ : ∃ XE, XE = mk (NU.esc 32 (L xs)) := ⟨_, rfl⟩
            have HXE : Hid (L XE = NU.esc 32 (L xs)) := by show _ = _; rw [hXE, L_mk]
            have hXEz : XE.size ≤ 6442450941 := by rw [← L_length, HXE.out]; exact esc_small 32 _ (by rw [L_length]; exact hxz)
            have CX := Lib.hid (implEscape_any xs (by omega))
            rw [← hXE] at CX
            have HNX : Hid (NU.encv (encUp M k) (L K) (ls.take (y + 1)) = (if L q = [] then L q else L q ++ [38]) ++ (L KE ++ [61] ++ L XE)) := by
              show _ = _
              rw [encv_take _ _ _ _ hyl, ← HQ.out, ← hxl, HKE.out, HXE.out]; rfl
            have hqb : q.size ≤ 25769803780000 := by omega
            have HFw := Lib.hid (hf2.out.trans HFb.out)
            clear hxs hxl hXE
            by_cases hq0 : L q = []
            all_goals
              first
                | (have q0 := L_empty hq0; rw [if_pos hq0] at HNX)
                | (have q0 := L_nempty hq0; rw [if_neg hq0] at HNX)
              have HQ0 := Lib.hid hq0
              clear hq0
              go_wp2_with (first
                | (go_at_call 17; (with_reducible refine (CK.out _ (Lib.hid (ht.out.fr HFw.out))).mono ?_); rintro e w5 ⟨rfl, hf5⟩; replace hf5 := Lib.hid hf5)
                | (go_at_call 17; (with_reducible refine (CX.out _ (Lib.hid (ht.out.fr (HFw.out.trans hf5.out)))).mono ?_); rintro e w6 ⟨rfl, hf6⟩; replace hf6 := Lib.hid (hf5.out.trans hf6)))
              go_roundw
              case rel =>
                have s1 : (⟨#[61]⟩ : ByteArray).size = 1 := rfl
                have s2 : (⟨#[38]⟩ : ByteArray).size = 1 := rfl
                refine ⟨y + 1, _, by omega, by go_num, rfl, ?_, ?_, HFb.out.trans hf6.out, HBb.out.below hf6.out HBb.out.lt⟩
                · show _ = _
                  rw [HNX.out]
                  first | (simp only [L_app]; done) | (simp only [L_app]; rfl) | (simp [L_app]; done)
                · simp only [ByteArray.size_append, s1, s2]; omega
              case measure => first | (simp [intOf]; done) | (simp [intOf]; omega)
end Go.Proofs.YtlholchmgheemaaDoor
