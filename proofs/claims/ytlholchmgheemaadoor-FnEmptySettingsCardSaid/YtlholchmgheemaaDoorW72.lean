import Derived.Test.YtlholchmgheemaaDoorW71
import Derived.Test.YtlholchmgheemaaDoorP19
namespace Go.Proofs.YtlholchmgheemaaDoor
set_option linter.unusedVariables false
set_option linter.unusedSimpArgs false
open Go.RowKit Go.Maps

theorem few_small {M : NU.QM} (hT : NU.total M ≤ 2000) (hs : M.length ≤ 2000) : Few M := by
  refine ⟨by omega, fun i hi => ?_⟩
  have h1 := NU.total_take M i hi
  have h2 := NU.total_le M (i + 1)
  omega
set_option maxRecDepth 100000 in
set_option maxHeartbeats 16000000 in
theorem FnEncodeBack_any (l : IL) (v : Value) (w : World) (hI : InP w v l) (ht : Tab w) :
    Calls Tryd.prog 6 #[v] w fun e w' => e = .returned (.bool true) ∧ Fr w w' := by
  have CZ := Lib.hid (zzFits2_any w v l hI)
  replace hI := Lib.hid hI
  replace ht := Lib.hid ht
  cases hfit : fitP l
  case false =>
    rw [hfit] at CZ
    go_enter Tryd.func6, Tryd.ntmps6
    go_wp2_with (go_at_call 14; (with_reducible refine CZ.out.mono ?_); rintro e w1 ⟨rfl, hf1⟩; replace hf1 := Lib.hid hf1)
    go_ret
    exact ⟨rfl, hf1.out⟩
  case true =>
    rw [hfit] at CZ
    obtain ⟨M, hM⟩ : ∃ M, M = NU.specPairs (bl l) := ⟨_, rfl⟩
    have hT : Hid (NU.total M ≤ 2000) := by show _ ≤ _; rw [hM]; exact NU.total_specPairs _
    have hSM : NU.SmallM M := by rw [hM]; exact NU.small_specPairs _ (small_fit l hfit)
    have hS : Hid (Small M) := by show Small M; exact small_of hSM
    have hG : NU.NoE M ∧ NU.Srt M := by rw [hM]; exact NU.good_specPairs _
    have CP := Lib.hid (fun W hW => specPairs_any W v l hW hfit)
    rw [← hM] at CP
    have CQ := Lib.hid queries_any
    obtain ⟨q, hq⟩ : ∃ q, q = mk (NU.encq M) := ⟨_, rfl⟩
    have hqz : q.size ≤ 35184372088832 := by
      have h1 := NU.encq_len M hSM
      have h2 := hT.out
      rw [hq, mk_size]; omega
    have HQP : NU.qparse (L q) = (M, false) := by rw [hq, L_mk]; exact NU.qparse_encq M hG.2 hG.1 hT.out
    have CI := Lib.hid (implParseQuery_any q hqz)
    rw [HQP] at CI
    dsimp only at CI
    rw [show (!false) = true from rfl] at CI
    have CE := Lib.hid (fun B v S W hP hn hTb => implEncode_any B v S M W hP hn hT hS hTb)
    rw [← hq] at CE
    have CS := Lib.hid (fun v1 v2 W (hF : Hid (Few M)) h1 h2 => SamePairs_any v1 v2 M M W hF.out.1 hF.out.1 (Lib.hid hF.out.2) (Lib.hid hF.out.2) h1 h2)
    rw [decide_eq_true rfl] at CS
    clear hM hfit hSM hG hq HQP hqz
    go_enter Tryd.func6, Tryd.ntmps6
    go_wp2_with (first
      | (go_at_call 14; (with_reducible refine CZ.out.mono ?_); rintro e w1 ⟨rfl, hf1⟩; replace hf1 := Lib.hid hf1)
      | (go_at_call 16; (with_reducible refine (CP.out _ (hI.out.fr hf1.out)).mono ?_); rintro e w2 ⟨v2, S, rfl, hf2, hP, hQ, hn⟩; replace hf2 := Lib.hid (hf1.out.trans hf2); replace hP := Lib.hid hP)
      | (go_at_call 15; (with_reducible refine (CE.out _ _ _ _ hP hn (Lib.hid (ht.out.fr hf2.out))).mono ?_); rintro e w3 ⟨rfl, hf3⟩; have hf03 := Lib.hid (hf2.out.trans hf3); replace hf3 := Lib.hid hf3)
      | (go_at_call 11; (with_reducible refine (CI.out _ (Lib.hid (ht.out.fr hf03.out))).mono ?_); rintro e w4 ⟨v4, S4, rfl, hf4, hp4, hfew⟩; replace hfew := Lib.hid hfew; replace hp4 := Lib.hid hp4.at; have hf04 := Lib.hid (hf03.out.trans hf4); have hf24 := Lib.hid (hf3.out.trans hf4))
      | (go_at_call 9; (with_reducible refine (CQ.out _ (Lib.hid (ht.out.fr hf04.out))).mono ?_); rintro e w5 ⟨rfl, hf5⟩; have hf25 := Lib.hid (hf24.out.trans hf5); have hf05 := Lib.hid (hf04.out.trans hf5); replace hf5 := Lib.hid hf5)
      | (go_at_call 12; (with_reducible refine (CS.out _ _ _ hfew (hp4.out.fr hf5.out) (hP.out.at.fr hf25.out)).mono ?_); rintro e w6 ⟨rfl, hf6⟩))
    go_ret
    exact ⟨rfl, hf05.out.trans hf6⟩
end Go.Proofs.YtlholchmgheemaaDoor
