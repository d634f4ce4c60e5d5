import Derived.Test.YtlholchmgheemaaDoorW68
namespace Go.Proofs.YtlholchmgheemaaDoor
set_option linter.unusedVariables false
set_option linter.unusedSimpArgs false
open Go.RowKit Go.Maps

theorem srt_take {α : Type} (l : List (List UInt8 × α)) (k : Nat) (h : NU.Srt l) : NU.Srt (l.take k) := List.Pairwise.sublist (List.take_sublist k l) h
theorem upd_next (S : SL) (h : NU.Srt S) (k : Nat) (hk : k < S.length) (key : List UInt8) (he : S[k].1 = key) : NU.upd (fun _ => S[k].2) key (S.take k) = S.take (k + 1) := by
  have hl : (S.take k).length = k := by rw [List.length_take]; omega
  have := upd_at (fun _ => S[k].2) key (S.take k) k (by omega) (fun j hj hjk => by
    rw [List.getElem_take, ← he]
    exact List.pairwise_iff_getElem.1 h j k (by omega) hk hjk) (fun j hj hjk => absurd hj (by omega))
  rw [this, List.take_take, Nat.min_self, List.drop_eq_nil_of_le (by omega), ← he, List.take_succ_eq_append_getElem hk]
set_option maxRecDepth 100000 in
set_option maxHeartbeats 8000000 in
theorem implEncode_any (B : Nat) (v : Value) (S : SL) (M : NU.QM) (w : World) (hP : Hid (Pairs B w v S M)) (hn : S.length ≤ 2000) (hT : Hid (NU.total M ≤ 2000)) (hS : Hid (Small M)) (ht : Hid (Tab w)) :
    Calls Tryd.prog 15 #[v] w fun e w' => e = .returned (.string (mk (NU.encq M))) ∧ Fr w w' := by
  obtain ⟨ao, cap, rfl, HA⟩ : ∃ ao cap, v = .slice ao S.length cap ∧ Hid ((ao = none ∧ S = [] ∧ cap = 0) ∨ ∃ g, ao = some ⟨g, 0, none⟩) := by
    rcases hP.out.form with ⟨hv, hS⟩ | ⟨g, cap, hv, _⟩
    · exact ⟨none, 0, by rw [hv, hS]; rfl, .inl ⟨rfl, hS, rfl⟩⟩
    · exact ⟨_, cap, hv, .inr ⟨g, rfl⟩⟩
  obtain ⟨N, hN⟩ : ∃ N, N = S.length := ⟨_, rfl⟩
  have HN := Lib.hid hN
  have hN2 : N ≤ 2000 := by omega
  rw [← hN]
  clear hN hn
  have CE := Lib.hid (fun b n W hG hTb => urlEncode_any B b n S M W hG (by have := HN.out; omega) hT hS hTb)
  have hmm := @run_makeMap Tryd.prog
  go_enter Tryd.func15, Tryd.ntmps15
  go_wp2
  go_loopw [9] (fun i wr => ∃ k : Nat, k ≤ N ∧ i = .int .i64 (k : Int) ∧ Hid (Fr w wr) ∧ Hid (wr.ownsMap Tryd.prog 9 Rsl w.heap.size k (dmap (S.take k)))) (fun i _ => N - (intOf i).toNat)
  case atStart => exact ⟨0, by omega, rfl, (Fr.refl _).alloc _, (Gmap.made w w.heap.size).2.1⟩
  case round =>
    obtain ⟨k, hk, rfl, HF, HO⟩ := hrel
    have hbl : w.heap.size < wr.heap.size := HO.out.lt
    by_cases hkN : k < N
    case neg =>
      obtain rfl : k = N := by omega
      have HG : Hid (Gmap B wr w.heap.size k S M) := by
        refine ⟨(hP.out.fr HF.out).svs, ?_, fun key u hu => ?_⟩
        · have := HO.out; rw [List.take_of_length_le (by have := HN.out; omega)] at this; exact this
        · obtain ⟨g', hg', _, hlt⟩ := hP.out.svs.blk hu
          rw [hg']; simp; omega
      have HTb := Lib.hid (ht.out.fr HF.out)
      clear hkN
      go_wp2_with (go_at_call 27; (with_reducible refine (CE.out _ _ _ HG HTb).mono ?_); rintro e w2 ⟨rfl, hf2⟩; replace hf2 := Lib.hid hf2)
      go_ret
      exact ⟨rfl, HF.out.trans hf2.out⟩
    case pos =>
      have hkS : k < S.length := by have := HN.out; omega
      obtain ⟨g, rfl⟩ : ∃ g, ao = some ⟨g, 0, none⟩ := by
        rcases HA.out with ⟨_, h, _⟩ | h
        · rw [h] at hkS; simp at hkS
        · exact h
      have hPw := hP.out.fr HF.out
      have hown := hPw.own
      obtain ⟨K, hK⟩ : ∃ K, K = mk S[k].1 := ⟨_, rfl⟩
      have hLK : S[k].1 = L K := by rw [hK, L_mk]
      obtain ⟨l, hlM, hrow, hl0⟩ := hPw.svs.row (NU.look_of_mem hPw.svs.ss (List.getElem_mem hkS))
      obtain ⟨gu, capu, hu, hgu, _⟩ := hrow.form hl0
      have hkM : k < M.length := by rw [← hP.out.svs.len]; exact hkS
      have hKz : K.size ≤ 70368744177664 := by
        rw [← L_length, ← hLK, hP.out.svs.key_at k hkS hkM]
        have := (hS.out k hkM).1; omega
      have c0 : wr.cell? ⟨g, k * 2, none⟩ = some (.string K) := by rw [hK]; exact ownsRow_cell hown (k * 2) _ (pCells_key S k hkS).1
      have c1 : wr.cell? ⟨g, k * 2 + 1, none⟩ = some (.slice (some ⟨gu, 0, none⟩) l.length capu) := by rw [← hu]; exact ownsRow_cell hown (k * 2 + 1) _ (pCells_key S k hkS).2
      have HUN : Hid (NU.upd (fun _ => .slice (some ⟨gu, 0, none⟩) l.length capu) (L K) (S.take k) = S.take (k + 1)) := by
        show _ = _; rw [← hu]; exact upd_next S hPw.svs.ss k hkS _ hLK
      have HO2 : Hid ((wr.alloc (.cells #[.string K, .slice (some ⟨gu, 0, none⟩) l.length capu] 40)).ownsMap Tryd.prog 9 Rsl w.heap.size k (dmap (S.take k))) := HO.out.kept (World.grownBy_alloc _ _ none) (by simp)
      have HST := Lib.hid (srt_take S k hPw.svs.ss)
      clear hPw hown hK hLK hlM hrow hl0 hu
      go_wp2_with (first
        | (at_mapUpdate; refine wpList_put_g rfl _ _ _ rfl w.heap.size k (S.take k) rfl HO2.out HST.out (by omega) K rfl hKz gu _ capu rfl ?_; intro w6 hown6 hg6; replace hown6 := Lib.hid hown6; replace hg6 := Lib.hid hg6; rw [HUN.out] at hown6)
        | fail)
      try go_frame
      go_roundw
      case rel => exact ⟨k + 1, by omega, by first | rfl | go_num, Below.grown (HF.out.alloc _) hg6.out (by simp; omega) (fun j hj => by cases hj; exact Nat.le_refl _), hown6⟩
      case measure => first | (simp [intOf]; done) | (simp [intOf]; omega)
end Go.Proofs.YtlholchmgheemaaDoor
